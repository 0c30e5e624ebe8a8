import PyProof.Rows.All
import Wide.All
import OpenK.AllK
import Wide.FinOn
import PySem.Challenge.RW_ez0019_01

set_option Elab.async false

/-! Core -/
section
open PySem

namespace Mine

/-- the values of the pure reading -/
inductive PV where
  | none
  | bool (b : Bool)
  | int (i : Int)
  | str (x : Str)
  | bytes (b : List UInt8)
  | tup (l : List PV)
  | lst (l : List PV)
  | rng (n : Nat)
  | dci (l : List (Int × Str))
  | dcs (l : List (Str × List UInt8))
  | raw (v : Value)

abbrev Rd := Str → Option PV
abbrev K := PV → Option PV

inductive Bnd where
  | val (p : PV)
  | own (l : List PV)
abbrev Vars := List (Str × Bnd)

inductive Fl where
  | next | brk | cnt
  | ret (p : PV)
abbrev KS := Fl → Vars → Option PV

def lookV : Vars → Str → Option Bnd
  | [], _ => none
  | (y, b) :: r, x => bif decide (y = x) then some b else lookV r x
def putV : Vars → Str → Bnd → Vars
  | [], x, b => [(x, b)]
  | (y, c) :: r, x, b => bif decide (y = x) then (y, b) :: r else (y, c) :: putV r x b
def rdV (σ : Vars) : Rd := fun x => match lookV σ x with
  | some (.val p) => some p
  | _ => none
def rdA (σ : Vars) : Rd := fun x => match lookV σ x with
  | some (.val p) => some p
  | some (.own l) => some (.lst l)
  | none => none

def small (a : Int) : Bool := decide (a.natAbs < 18446744073709551616)
def lenOk (n : Nat) : Bool := decide (n ≤ 1000000)

def listMul (l : List PV) : Nat → List PV
  | 0 => []
  | n + 1 => l ++ listMul l n
def bytesMul (l : List UInt8) : Nat → List UInt8
  | 0 => []
  | n + 1 => l ++ bytesMul l n

def gate (b : Bool) (x : Option PV) : Option PV := bif b then x else none

def binK (op : Operator) (a b : PV) (k : K) : Option PV :=
  match op with
  | .Add => match a, b with
    | .int a, .int b => k (.int (a + b))
    | .bytes a, .bytes b => gate (lenOk (a.length + b.length)) (k (.bytes (a ++ b)))
    | .str a, .str b => gate (lenOk (a.length + b.length)) (k (.str (a ++ b)))
    | .lst a, .lst b => gate (lenOk (a.length + b.length)) (k (.lst (a ++ b)))
    | _, _ => none
  | .Sub => match a, b with
    | .int a, .int b => k (.int (a - b))
    | _, _ => none
  | .Mult => match a, b with
    | .int a, .int b => gate (small a && small b) (k (.int (a * b)))
    | .bytes a, .int n => gate (decide (0 ≤ n) && decide (n ≤ 1000) && decide (a.length = 1)) (k (.bytes (bytesMul a n.toNat)))
    | _, _ => none
  | .FloorDiv => match a, b with
    | .int a, .int b => gate (decide (0 < b) && decide (b < 1000000)) (k (.int (a.fdiv b)))
    | _, _ => none
  | .Mod => match a, b with
    | .int a, .int b => gate (decide (0 < b)) (k (.int (a.fmod b)))
    | _, _ => none
  | .Pow => match a, b with
    | .int a, .int n => gate (decide (0 ≤ n) && decide (n ≤ 10000) && decide (a.natAbs ≤ 256)) (k (.int (a ^ n.toNat)))
    | _, _ => none
  | .LShift => match a, b with
    | .bool a, .int n => gate (decide (0 ≤ n) && decide (n ≤ 10000)) (k (.int ((bif a then 1 else 0) * 2 ^ n.toNat)))
    | .int a, .int n => gate (decide (0 ≤ n) && decide (n ≤ 10000) && small a) (k (.int (a * 2 ^ n.toNat)))
    | _, _ => none
  | .RShift => match a, b with
    | .int a, .int n => gate (decide (0 ≤ n) && decide (n ≤ 10000)) (k (.int (a.fdiv (2 ^ n.toNat))))
    | _, _ => none
  | .BitAnd => match a, b with
    | .int a, .int b => k (.int (Builtin.bitAnd a b))
    | _, _ => none
  | .BitOr => match a, b with
    | .int a, .int b => k (.int (Builtin.bitOr a b))
    | _, _ => none
  | _ => none

/-- truth of a value -/
def truK (a : PV) (k : Bool → Option PV) : Option PV :=
  match a with
  | .none => k false
  | .bool b => k b
  | .int i => k (i != 0)
  | .str x => gate (lenOk x.length) (k (decide (x.length ≠ 0)))
  | .bytes b => gate (lenOk b.length) (k (!b.isEmpty))
  | .lst l => gate (lenOk l.length) (k (!l.isEmpty))
  | .tup l => gate (lenOk l.length) (k (!l.isEmpty))
  | _ => none

mutual
/-- the datum that the library's == is known over -/
def toPy : PV → Option PyData
  | .none => some .none
  | .bool b => some (.bool b)
  | .int i => some (.int i)
  | .str x => some (.str x)
  | .tup l => match toPyL l with
    | some ds => some (.tuple ds)
    | none => none
  | .lst l => match toPyL l with
    | some ds => some (.list ds)
    | none => none
  | _ => none
def toPyL : List PV → Option (List PyData)
  | [] => some []
  | p :: l => match toPy p with
    | some d => match toPyL l with
      | some ds => some (d :: ds)
      | none => none
    | none => none
end
def eqPyK (a b : PV) (k : Bool → Option PV) : Option PV := match toPy a with
  | some x => match toPy b with
    | some y => gate (SeqAt.shaped x && SeqAt.shaped y) (k (PyData.eqv x y))
    | none => none
  | none => none

def isNoneP : PV → Option Bool
  | .none => some true
  | .raw _ => none
  | _ => some false

/-- one comparison -/
def cmpK (op : CmpOp) (a b : PV) (k : Bool → Option PV) : Option PV :=
  match op with
  | .Eq => match a, b with
    | .int a, .int b => k (decide (a = b))
    | .str a, .str b => k (decide (a = b))
    | .bytes a, .bytes b => k (decide (a = b))
    | _, _ => none
  | .NotEq => match a, b with
    | .int a, .int b => k (!decide (a = b))
    | .str a, .str b => k (!decide (a = b))
    | .bytes a, .bytes b => k (!decide (a = b))
    | .lst a, .lst b => eqPyK (.lst a) (.lst b) fun c => k (!c)
    | .tup a, .tup b => eqPyK (.tup a) (.tup b) fun c => k (!c)
    | _, _ => none
  | .Lt => match a, b with
    | .int a, .int b => k (decide (a < b))
    | _, _ => none
  | .LtE => match a, b with
    | .int a, .int b => k (decide (a ≤ b))
    | _, _ => none
  | .Gt => match a, b with
    | .int a, .int b => k (decide (b < a))
    | _, _ => none
  | .GtE => match a, b with
    | .int a, .int b => k (decide (b ≤ a))
    | _, _ => none
  | .Is => match b with
    | .none => match isNoneP a with
      | some c => k c
      | none => none
    | _ => none
  | .IsNot => match b with
    | .none => match isNoneP a with
      | some c => k (!c)
      | none => none
    | .raw (.type y) => match a with
      | .raw (.type x) => k (!decide (x = y))
      | _ => none
    | .raw (.ref y) => match a with
      | .raw (.ref x) => gate (decide (x = y)) (k false)
      | _ => none
    | _ => none
  | .In => match a, b with
    | .int a, .dci l => k (l.lookup a).isSome
    | .str a, .dcs l => k (l.lookup a).isSome
    | _, _ => none
  | .NotIn => none

/-- an item of a list of values at an index, place by place -/
def idxK : List PV → Int → K → Option PV
  | [], _, _ => none
  | p :: l, i, k => bif decide (i = 0) then k p else idxK l (i - 1) k
def itemK (o i : PV) (k : K) : Option PV :=
  match o, i with
  | .bytes b, .int i => bif decide (0 ≤ i) then gate (decide (i < b.length) && lenOk b.length) (k (.int (b.getD i.toNat 0).toNat))
      else gate (decide (0 ≤ i + b.length) && lenOk b.length) (k (.int (b.getD (i + b.length).toNat 0).toNat))
  | .lst l, .int i => gate (lenOk l.length) (bif decide (0 ≤ i) then idxK l i k else idxK l.reverse (-1 - i) k)
  | .tup l, .int i => gate (lenOk l.length && decide (0 ≤ i)) (idxK l i k)
  | .dci d, .int i => match d.lookup i with
    | some x => k (.str x)
    | none => none
  | .dcs d, .str i => match d.lookup i with
    | some x => k (.bytes x)
    | none => none
  | _, _ => none

def cutL {α : Type} (l : List α) (a b : Option Int) : List α :=
  (l.drop (a.elim 0 (clipAt l.length))).take (b.elim l.length (clipAt l.length) - a.elim 0 (clipAt l.length))
def optI : PV → Option (Option Int)
  | .none => some none
  | .int i => bif decide (i.natAbs < 1000000000) then some (some i) else none
  | _ => none
def sliceK (o a b : PV) (k : K) : Option PV :=
  match optI a, optI b with
  | some a, some b => match o with
    | .bytes l => gate (lenOk l.length) (k (.bytes (cutL l a b)))
    | .lst l => gate (lenOk l.length) (k (.lst (cutL l a b)))
    | _ => none
  | _, _ => none

def itemsOf : PV → Option (List PV)
  | .lst l => some l
  | .tup l => some l
  | .rng n => some ((List.range n).map fun i => .int (Int.ofNat i))
  | _ => none

def evList (ev1 : Expr → K → Option PV) : List Expr → (List PV → Option PV) → Option PV
  | [], k => k []
  | e :: es, k => ev1 e fun v => evList ev1 es fun vs => k (v :: vs)
def evKws (ev1 : Expr → K → Option PV) : List Keyword → (List (Str × PV) → Option PV) → Option PV
  | [], k => k []
  | ⟨some n, e, _⟩ :: es, k => ev1 e fun v => evKws ev1 es fun vs => k ((n, v) :: vs)
  | ⟨none, _, _⟩ :: _, _ => none

abbrev Fun := List PV → List (Str × PV) → K → Option PV
structure Tbl where
  gl : Str → Option PV
  fn : Str → Option Fun
  mt : Str → PV → Option Fun

structure Ev where
  ev : Scope → Expr → Rd → K → Option PV
  tr : Scope → Expr → Rd → (Bool → Option PV) → Option PV

/-- a value's and, or -/
def boolK (ev1 : Expr → K → Option PV) (op : BoolOp) : List Expr → K → Option PV
  | [], _ => none
  | [e], k => ev1 e k
  | e :: es, k => ev1 e fun v => truK v fun b => match op with
    | .And => bif b then boolK ev1 op es k else k v
    | .Or => bif b then k v else boolK ev1 op es k
def allK (tr1 : Expr → (Bool → Option PV) → Option PV) (op : BoolOp) : List Expr → (Bool → Option PV) → Option PV
  | [], k => k (match op with | .And => true | .Or => false)
  | e :: es, k => tr1 e fun b => match op with
    | .And => bif b then allK tr1 op es k else k false
    | .Or => bif b then k true else allK tr1 op es k
def chainK (ev1 : Expr → K → Option PV) (a : PV) : List CmpOp → List Expr → (Bool → Option PV) → Option PV
  | [op], [e], k => ev1 e fun b => cmpK op a b k
  | op :: ops, e :: es, k => ev1 e fun b => cmpK op a b fun c => bif c then chainK ev1 b ops es k else k false
  | _, _, _ => none

def fmtK (p : PV) (k : K) : Option PV :=
  match p with
  | .str x => gate (lenOk x.length) (k (.str x))
  | .int i => gate (small i) (k (.str (Str.ofString (toString i))))
  | _ => none
def partK (ev1 : Expr → K → Option PV) : Expr → K → Option PV
  | .FormattedValue e (-1) none _, k => ev1 e fun v => fmtK v k
  | .Constant (.str x) _ _, k => k (.str x)
  | _, _ => none
def joinEv (ev1 : Expr → K → Option PV) : Str → List Expr → K → Option PV
  | out, [], k => k (.str out)
  | out, e :: es, k => partK ev1 e fun p => match p with
    | .str x => gate (lenOk (out.length + x.length)) (joinEv ev1 (out ++ x) es k)
    | _ => none

/-- names that a block may store -/
def stOk (sc : Scope) (x : Str) : Bool := (match sc.names.lookup x with | some .local => true | some .cell => true | _ => false) && (!(x == ("__debug__" : Str)) && !(x == ("__classdict__" : Str)))
def targets (sc : Scope) : List Expr → Option (List Str)
  | [] => some []
  | .Name x _ :: ts => match targets sc ts with
    | some l => bif stOk sc x && !l.any (fun y => decide (y = x)) then some (x :: l) else none
    | none => none
  | _ => none
def bindBs : List Str → List Bnd → Vars → Option Vars
  | [], [], σ => some σ
  | x :: ts, b :: bs, σ => bindBs ts bs (putV σ x b)
  | _, _, _ => none
/-- what a target takes -/
def bindT (sc : Scope) : Expr → PV → Vars → Option Vars
  | .Name x _, p, σ => bif stOk sc x then some (putV σ x (.val p)) else none
  | .Tuple ts _ _, .tup ps, σ => match targets sc ts with
    | some xs => bindBs xs (ps.map .val) σ
    | none => none
  | _, _, _ => none
/-- a comprehension's own names, else the ones it reads from around -/
def rdC (csc : Scope) (σ : Vars) (ρ : Rd) : Rd := fun y => match lookV σ y with
  | some (.val p) => some p
  | some (.own _) => none
  | none => match csc.names.lookup y with
    | some .free => ρ y
    | _ => none
def compOk (sc csc : Scope) : Bool := decide (csc.kind = .function) && csc.names.all fun p => match p.2 with
  | .local => decide (csc.names.lookup p.1 = some .local)
  | .cell => false
  | .free => decide (sc.names.lookup p.1 = some .cell)
  | _ => true
def compK (body : PV → K → Option PV) : List PV → (List PV → Option PV) → Option PV
  | [], k => k []
  | x :: xs, k => body x fun y => compK body xs fun ys => k (y :: ys)

def optEv (ev1 : Expr → K → Option PV) : Option Expr → K → Option PV
  | none, k => k .none
  | some e, k => ev1 e k

def notSet : Expr → Bool
  | .Set .. => false
  | _ => true
def notStar : Expr → Bool
  | .Starred .. => false
  | _ => true
def notComp : Expr → Bool
  | .ListComp .. | .SetComp .. | .DictComp .. => false
  | _ => true
def notTup : Expr → Bool
  | .Tuple .. => false
  | _ => true
def kwOk : Keyword → Bool
  | ⟨some _, _, _⟩ => true
  | _ => false
def notSuper : Expr → Bool
  | .Call (.Name id _) [] [] _ => decide (id ≠ Str.ofString "super")
  | _ => true

def evStep (T : Tbl) (r : Ev) : Ev where
  ev := fun sc e ρ k => match e with
    | .Constant c _ _ => match c with
      | .none => k .none
      | .bool b => k (.bool b)
      | .int i => k (.int i)
      | .str s => k (.str s)
      | .bytes b => k (.bytes b)
      | _ => none
    | .Name x _ => match ρ x with
      | some p => k p
      | none => match sc.names.lookup x with
        | some .globalImplicit => match T.gl x with
          | some p => k p
          | none => none
        | _ => none
    | .BinOp (.List es _) .Mult b _ => gate (es.all notStar && lenOk es.length) (evList (fun e k => r.ev sc e ρ k) es fun vs => r.ev sc b ρ fun y => match y with
      | .int n => gate (decide (0 ≤ n) && decide (n ≤ 1000) && lenOk (vs.length * n.toNat)) (k (.lst (listMul vs n.toNat)))
      | _ => none)
    | .BinOp l op b _ => r.ev sc l ρ fun x => r.ev sc b ρ fun y => binK op x y k
    | .UnaryOp op x _ => r.ev sc x ρ fun v => match op with
      | .Not => truK v fun b => k (.bool (!b))
      | .USub => match v with
        | .int i => k (.int (-i))
        | _ => none
      | _ => none
    | .BoolOp op vs _ => boolK (fun e k => r.ev sc e ρ k) op vs k
    | .IfExp t b o _ => r.tr sc t ρ fun c => bif c then r.ev sc b ρ k else r.ev sc o ρ k
    | .Compare l ops cs _ => gate (cs.all notSet) (r.ev sc l ρ fun a => chainK (fun e k => r.ev sc e ρ k) a ops cs fun b => k (.bool b))
    | .Call (.Attribute o name apos) args kws pos => gate (notSuper o && decide (apos.endLine = pos.line) && args.all notStar && kws.all kwOk && decide (args.length + kws.length < 28)) (r.ev sc o ρ fun ov => match T.mt name ov with
      | some φ => evList (fun e k => r.ev sc e ρ k) args fun vs => evKws (fun e k => r.ev sc e ρ k) kws fun kvs => φ vs kvs k
      | none => none)
    | .Call (.Name f _) args kws _ => match ρ f, sc.names.lookup f with
      | none, some .globalImplicit => match T.fn f with
        | some φ => gate (args.all notStar && kws.all kwOk) (evList (fun e k => r.ev sc e ρ k) args fun vs => evKws (fun e k => r.ev sc e ρ k) kws fun kvs => φ vs kvs k)
        | none => none
      | _, _ => none
    | .Subscript v s _ => r.ev sc v ρ fun o => match s with
      | .Slice a b none _ => optEv (fun e k => r.ev sc e ρ k) a fun a => optEv (fun e k => r.ev sc e ρ k) b fun b => sliceK o a b k
      | s => r.ev sc s ρ fun i => itemK o i k
    | .Tuple es _ _ => gate (es.all notStar && lenOk es.length) (evList (fun e k => r.ev sc e ρ k) es fun vs => k (.tup vs))
    | .List es _ => gate (es.all notStar && lenOk es.length) (evList (fun e k => r.ev sc e ρ k) es fun vs => k (.lst vs))
    | .ListComp elt [⟨tgt, iter, [], 0⟩] csc _ => gate (notSet iter && compOk sc csc) <| r.ev sc iter ρ fun it => match itemsOf it with
      | some xs => gate (lenOk xs.length) (compK (fun x kk => match bindT csc tgt x [] with
          | some σ => r.ev csc elt (rdC csc σ ρ) kk
          | none => none) xs fun ys => k (.lst ys))
      | none => none
    | .JoinedStr [e] _ => partK (fun e k => r.ev sc e ρ k) e k
    | .JoinedStr (e₁ :: e₂ :: es) _ => joinEv (fun e k => r.ev sc e ρ k) Str.empty (e₁ :: e₂ :: es) k
    | _ => none
  tr := fun sc e ρ k => match e with
    | .UnaryOp .Not x _ => r.tr sc x ρ fun b => k (!b)
    | .BoolOp op vs _ => allK (fun e k => r.tr sc e ρ k) op vs k
    | .IfExp t b o _ => r.tr sc t ρ fun c => bif c then r.tr sc b ρ k else r.tr sc o ρ k
    | .Compare l ops cs _ => gate (cs.all notSet) (r.ev sc l ρ fun a => chainK (fun e k => r.ev sc e ρ k) a ops cs k)
    | e => r.ev sc e ρ fun v => truK v k

def evZero : Ev := ⟨fun _ _ _ _ => none, fun _ _ _ _ => none⟩
def evN (T : Tbl) : Nat → Ev
  | 0 => evZero
  | n + 1 => evStep T (evN T n)

/-! statements -/
def flatP : PV → Bool
  | .none | .bool _ | .int _ | .str _ | .bytes _ => true
  | _ => false
def exList (ex : Stmt → Vars → KS → Option PV) : List Stmt → Vars → KS → Option PV
  | [], σ, k => k .next σ
  | s :: ss, σ, k => ex s σ fun f σ' => match f with
    | .next => exList ex ss σ' k
    | .brk => k .brk σ'
    | .cnt => k .cnt σ'
    | .ret p => k (.ret p) σ'
def whileK (test : Vars → (Bool → Option PV) → Option PV) (body : Vars → KS → Option PV) : Nat → Vars → KS → Option PV
  | 0, _, _ => none
  | w + 1, σ, k => test σ fun b => bif b then (body σ fun f σ' => match f with
      | .next => whileK test body w σ' k
      | .cnt => whileK test body w σ' k
      | .brk => k .next σ'
      | .ret p => k (.ret p) σ') else k .next σ
def forK (bind : PV → Vars → Option Vars) (body : Vars → KS → Option PV) : List PV → Vars → KS → Option PV
  | [], σ, k => k .next σ
  | x :: xs, σ, k => match bind x σ with
    | some σ₁ => body σ₁ fun f σ' => match f with
      | .next => forK bind body xs σ' k
      | .cnt => forK bind body xs σ' k
      | .brk => k .next σ'
      | .ret p => k (.ret p) σ'
    | none => none
def augK (op : Operator) (a b : Int) (k : Int → Option PV) : Option PV := match op with
  | .Add => k (a + b)
  | .Mult => gate (small a && small b) (k (a * b))
  | .BitAnd => k (Builtin.bitAnd a b)
  | _ => none
def setLast (l : List PV) (p : PV) : List PV := l.dropLast ++ [p]
/-- does the expression name a list of the frame's own (any answer is sound) -/
def usesOwn (σ : Vars) : Nat → Expr → Bool
  | 0, _ => false
  | n + 1, e => match e with
    | .Name x _ => match lookV σ x with | some (.own _) => true | _ => false
    | .Call _ args _ _ => args.any (usesOwn σ n)
    | .BinOp a _ b _ => usesOwn σ n a || usesOwn σ n b
    | _ => false

def exStep (E : Ev) (sc : Scope) (w : Nat) (r : Stmt → Vars → KS → Option PV) : Stmt → Vars → KS → Option PV := fun s σ k => match s with
  | .Expr e _ => match e with
    | .Call (.Attribute (.Name x _) m apos) [a] [] pos => match lookV σ x with
      | some (.own l) => gate (decide (m = Str.ofString "append") && decide (apos.endLine = pos.line) && notStar a) (E.ev sc a (rdV σ) fun p => gate (lenOk l.length) (k .next (putV σ x (.own (l ++ [p])))))
      | _ => gate (notComp e) (E.ev sc e (rdV σ) fun _ => k .next σ)
    | e => gate (notComp e) (E.ev sc e (rdV σ) fun _ => k .next σ)
  | .Pass _ => k .next σ
  | .Break _ => k .brk σ
  | .Return (some e) _ => E.ev sc e (rdA σ) fun p => k (.ret p) σ
  | .Return none _ => k (.ret .none) σ
  | .Assign [.Name x _] e _ => gate (stOk sc x) (match e with
    | .List [] _ => k .next (putV σ x (.own []))
    | e => bif notComp e && usesOwn σ 6 e then E.ev sc e (rdA σ) fun p => gate (flatP p) (k .next (putV σ x (.val p))) else E.ev sc e (rdV σ) fun p => k .next (putV σ x (.val p)))
  | .Assign [.Tuple [.Name x _, .Name y _] _ _] (.Tuple [e1, e2] _ _) _ => gate (notStar e1 && notStar e2 && !(constantsAlone 8 e1 && constantsAlone 8 e2) && stOk sc x && stOk sc y && decide (x ≠ y)) (match e1 with
    | .List [] _ => E.ev sc e2 (rdV σ) fun p => k .next (putV (putV σ x (.own [])) y (.val p))
    | e1 => E.ev sc e1 (rdV σ) fun p1 => E.ev sc e2 (rdV σ) fun p2 => k .next (putV (putV σ x (.val p1)) y (.val p2)))
  | .Assign [.Tuple ts _ _] e _ => match targets sc ts with
    | none => none
    | some xs => gate (notComp e && notTup e) (E.ev sc e (rdV σ) fun p => match p with
        | .tup ps => match bindBs xs (ps.map .val) σ with
          | some σ' => k .next σ'
          | none => none
        | _ => none)
  | .Assign [.Subscript (.Name x _) (.UnaryOp .USub (.Constant (.int 1) _ _) _) _] e _ => match lookV σ x with
    | some (.own l) => gate (notComp e) (E.ev sc e (rdA σ) fun p => gate (flatP p && !l.isEmpty && lenOk l.length) (k .next (putV σ x (.own (setLast l p)))))
    | _ => none
  | .AugAssign (.Name x _) op e _ => match lookV σ x with
    | some (.val (.int a)) => gate (stOk sc x) (E.ev sc e (rdV σ) fun b => match b with
      | .int b => augK op a b fun c => k .next (putV σ x (.val (.int c)))
      | _ => none)
    | _ => none
  | .If t b o _ => E.tr sc t (rdA σ) fun c => bif c then exList r b σ k else exList r o σ k
  | .Try b (_ :: _) [] [] _ => exList r b σ k
  | .While t b [] _ => whileK (fun σ k => E.tr sc t (rdA σ) k) (exList r b) w σ k
  | .For t it b [] _ => gate (notSet it) <| E.ev sc it (rdV σ) fun p => match itemsOf p with
    | some xs => gate (lenOk xs.length) (forK (bindT sc t) (exList r b) xs σ k)
    | none => none
  | _ => none
def exZero : Stmt → Vars → KS → Option PV := fun _ _ _ => none
def exN (T : Tbl) (sc : Scope) (m w : Nat) : Nat → Stmt → Vars → KS → Option PV
  | 0 => exZero
  | n + 1 => exStep (evN T m) sc w (exN T sc m w n)

/-- the body of a def -/
def run (T : Tbl) (sc : Scope) (body : List Stmt) (σ : Vars) : Option PV :=
  exList (exN T sc 16 4000 8) body σ fun f _ => match f with
    | .ret p => some p
    | .next => some .none
    | _ => none

end Mine
end

/-! Rel -/
section
open PySem PySem.W PyProof.Rows
set_option maxRecDepth 100000
namespace Mine

abbrev PHeap := Addr → Option Obj
def Keep (h h' : Heap) : Prop := ∀ a o, h.get? a = some o → h'.get? a = some o
def SubH (H : PHeap) (h : Heap) : Prop := ∀ a o, H a = some o → h.get? a = some o
theorem Keep.refl (h : Heap) : Keep h h := fun _ _ e => e
theorem Keep.trans {a b c : Heap} (x : Keep a b) (y : Keep b c) : Keep a c := fun i o e => y i o (x i o e)
theorem Keep.push (h : Heap) (o : Obj) : Keep h (h.push o) := fun _ _ e => Heap.get?_push_of_some _ e
theorem SubH.keep {H : PHeap} {h h' : Heap} (x : SubH H h) (k : Keep h h') : SubH H h' := fun a o e => k a o (x a o e)

/-- what stands apart from heap and tokens -/
def Same (s s' : Shared) : Prop := s'.os = s.os ∧ (AllBare s.gens → AllBare s'.gens) ∧ s.gens.size ≤ s'.gens.size
theorem Same.refl (s : Shared) : Same s s := ⟨rfl, id, Nat.le_refl _⟩
theorem Same.trans {a b c : Shared} (x : Same a b) (y : Same b c) : Same a c := ⟨y.1.trans x.1, fun h => y.2.1 (x.2.1 h), Nat.le_trans x.2.2 y.2.2⟩
theorem Same.upd (s : Shared) (h : Heap) (t : Nat) : Same s { s with heap := h, toks := t } := ⟨rfl, id, Nat.le_refl _⟩

/-- how an int key's text is borne -/
def TextAt (v : Option Value) (x : Option Str) : Prop := match x with
  | some x => ∃ t, v = some (.str x t)
  | none => v = none
def BytesAt (v : Option Value) (x : Option (List UInt8)) : Prop := match x with
  | some x => ∃ t, v = some (.bytes x.toArray t)
  | none => v = none

def TupCls (o : Obj) (vs : List Value) : Prop := o.cls = .type "tuple" ∧ o = { cls := .type "tuple", data := .seq vs.toArray }
section
variable (prog : Program) (w : World)

mutual
inductive Rep (H : PHeap) : Value → PV → Prop
  | none : Rep H Value.none PV.none
  | bool (b : Bool) : Rep H (Value.bool b) (PV.bool b)
  | int (i : Int) (t : Tok) : Rep H (Value.int i t) (PV.int i)
  | str (x : Str) (t : Tok) : Rep H (Value.str x t) (PV.str x)
  | bytes (b : List UInt8) (t : Tok) : Rep H (Value.bytes b.toArray t) (PV.bytes b)
  | tup {a : Addr} {o : Obj} {vs : List Value} {n : Nat} {ps : List PV} : H a = some o → TupCls o vs → o.data = .seq vs.toArray n → RepL H vs ps → Rep H (Value.ref a) (PV.tup ps)
  | lst {a : Addr} {o : Obj} {vs : List Value} {n : Nat} {ps : List PV} : H a = some o → o.cls = .type "list" → o.data = .seq vs.toArray n → RepL H vs ps → Rep H (Value.ref a) (PV.lst ps)
  | rng {a : Addr} {o : Obj} {n : Nat} {t u v : Tok} : H a = some o → (∀ h : Heap, h.get? a = some o → IsRange h a 0 (n : Int) 1 t u v) → Rep H (Value.ref a) (PV.rng n)
  | dci {a : Addr} {o : Obj} {m : Int → Option Value} {l : List (Int × Str)} : H a = some o → (a == sysModules) = false → (∀ h : Heap, h.get? a = some o → h.MapOf (intKind prog w) a m) → (∀ k, TextAt (m k) (l.lookup k)) → Rep H (Value.ref a) (PV.dci l)
  | dcs {a : Addr} {o : Obj} {m : Str → Option Value} {l : List (Str × List UInt8)} : H a = some o → (a == sysModules) = false → (∀ h : Heap, h.get? a = some o → h.MapOf (strKind prog w) a m) → (∀ k, BytesAt (m k) (l.lookup k)) → Rep H (Value.ref a) (PV.dcs l)
  | raw (v : Value) : Rep H v (PV.raw v)
inductive RepL (H : PHeap) : List Value → List PV → Prop
  | nil : RepL H [] []
  | cons {v : Value} {vs : List Value} {p : PV} {ps : List PV} : Rep H v p → RepL H vs ps → RepL H (v :: vs) (p :: ps)
end
end

abbrev Grow (H H' : PHeap) : Prop := ∀ a o, H a = some o → H' a = some o
variable {prog : Program} {w : World} {H H' : PHeap}
mutual
theorem Rep.mono (g : Grow H H') : ∀ {v : Value} {p : PV}, Rep prog w H v p → Rep prog w H' v p
  | _, _, .none => .none
  | _, _, .bool b => .bool b
  | _, _, .int i t => .int i t
  | _, _, .str x t => .str x t
  | _, _, .bytes b t => .bytes b t
  | _, _, .tup h c d r => .tup (g _ _ h) c d (RepL.mono g r)
  | _, _, .lst h c d r => .lst (g _ _ h) c d (RepL.mono g r)
  | _, _, .rng h r => .rng (g _ _ h) r
  | _, _, .dci h a r t => .dci (g _ _ h) a r t
  | _, _, .dcs h a r t => .dcs (g _ _ h) a r t
  | _, _, .raw v => .raw v
theorem RepL.mono (g : Grow H H') : ∀ {vs : List Value} {ps : List PV}, RepL prog w H vs ps → RepL prog w H' vs ps
  | _, _, .nil => .nil
  | _, _, .cons h r => .cons (Rep.mono g h) (RepL.mono g r)
end
theorem Rep.flat {v : Value} {p : PV} (h : Rep prog w H v p) (f : flatP p = true) : ∀ H', Rep prog w H' v p := fun H' => by
  cases h with
  | none => exact .none
  | bool b => exact .bool b
  | int i t => exact .int i t
  | str x t => exact .str x t
  | bytes b t => exact .bytes b t
  | _ => cases f
theorem RepL.length {vs : List Value} {ps : List PV} (h : RepL prog w H vs ps) : vs.length = ps.length := by
  induction vs generalizing ps with
  | nil => cases h; rfl
  | cons v vs ih => cases h with | cons _ r => rw [List.length_cons, List.length_cons, ih r]
theorem RepL.append {vs ws : List Value} {ps qs : List PV} (h : RepL prog w H vs ps) (k : RepL prog w H ws qs) : RepL prog w H (vs ++ ws) (ps ++ qs) := by
  induction vs generalizing ps with
  | nil => cases h; exact k
  | cons v vs ih => cases h with | cons h r => exact .cons h (ih r)
theorem RepL.get {vs : List Value} {ps : List PV} (h : RepL prog w H vs ps) {i : Nat} {p : PV} (e : ps[i]? = some p) : ∃ v, vs[i]? = some v ∧ Rep prog w H v p := by
  induction vs generalizing ps i with
  | nil => cases h; cases e
  | cons v vs ih =>
    cases h with
    | cons h r =>
      cases i with
      | zero => cases e; exact ⟨v, rfl, h⟩
      | succ i => exact ih r e
theorem RepL.set {vs : List Value} {ps : List PV} (h : RepL prog w H vs ps) {i : Nat} {v : Value} {p : PV} (k : Rep prog w H v p) : RepL prog w H (vs.set i v) (ps.set i p) := by
  induction vs generalizing ps i with
  | nil => cases h; exact .nil
  | cons u vs ih =>
    cases h with
    | cons h r =>
      cases i with
      | zero => exact .cons k r
      | succ i => exact .cons h (ih r)
theorem RepL.take {vs : List Value} {ps : List PV} (h : RepL prog w H vs ps) (n : Nat) : RepL prog w H (vs.take n) (ps.take n) := by
  induction vs generalizing ps n with
  | nil => cases h; cases n <;> exact .nil
  | cons u vs ih =>
    cases h with
    | cons h r => cases n with
      | zero => exact .nil
      | succ n => exact .cons h (ih r n)
theorem RepL.drop {vs : List Value} {ps : List PV} (h : RepL prog w H vs ps) (n : Nat) : RepL prog w H (vs.drop n) (ps.drop n) := by
  induction vs generalizing ps n with
  | nil => cases h; cases n <;> exact .nil
  | cons u vs ih =>
    cases h with
    | cons h r => cases n with
      | zero => exact .cons h r
      | succ n => exact ih r n

/-- what a step that changes nothing of old may do -/
structure After (s : Shared) (H : PHeap) (s' : Shared) (H' : PHeap) : Prop where
  same : Same s s'
  keep : Keep s.heap s'.heap
  sub : SubH H' s'.heap
  grow : Grow H H'
  fresh : ∀ a o, H' a = some o → H a = some o ∨ s.heap.get? a = none
theorem After.refl {s : Shared} {H : PHeap} (h : SubH H s.heap) : After s H s H := ⟨.refl s, .refl _, h, fun _ _ e => e, fun _ _ e => .inl e⟩
theorem After.trans {s s' s'' : Shared} {H H' H'' : PHeap} (x : After s H s' H') (y : After s' H' s'' H'') : After s H s'' H'' :=
  ⟨x.same.trans y.same, x.keep.trans y.keep, y.sub, fun a o e => y.grow a o (x.grow a o e), fun a o e => (y.fresh a o e).elim (x.fresh a o) fun n => .inr (by
    cases q : s.heap.get? a with
    | none => rfl
    | some o' => rw [x.keep a o' q] at n; cases n)⟩
theorem After.upd {s : Shared} {H : PHeap} {h : Heap} {t : Nat} (x : SubH H s.heap) (k : Keep s.heap h) : After s H { s with heap := h, toks := t } H :=
  ⟨.upd s h t, k, x.keep k, fun _ _ e => e, fun _ _ e => .inl e⟩
theorem After.tok {s : Shared} {H : PHeap} {t : Nat} (x : SubH H s.heap) : After s H { s with toks := t } H := After.upd x (.refl _)
/-- a fresh object joins what is seen -/
def withObj (H : PHeap) (a : Addr) (o : Obj) : PHeap := fun b => if b = a then some o else H b
theorem get_size_none (h : Heap) : h.get? h.objs.size = none := by
  cases q : h.get? h.objs.size with
  | none => rfl
  | some o => exact absurd (Heap.lt_size q) (Nat.lt_irrefl _)
theorem grow_with {H : PHeap} {h : Heap} (x : SubH H h) {a : Addr} (n : h.get? a = none) (o : Obj) : Grow H (withObj H a o) := fun b o' e => by
  unfold withObj
  by_cases q : b = a
  · subst q; rw [x _ _ e] at n; cases n
  · rw [if_neg q]; exact e
theorem After.new {s : Shared} {H : PHeap} {h : Heap} {t : Nat} {a : Addr} {o : Obj} (x : SubH H s.heap) (k : Keep s.heap h) (n : s.heap.get? a = none) (e : h.get? a = some o) :
    After s H { s with heap := h, toks := t } (withObj H a o) := by
  refine ⟨.upd s h t, k, fun b o' q => ?_, grow_with x n o, fun b o' q => ?_⟩
  · unfold withObj at q
    by_cases c : b = a
    · rw [if_pos c] at q; cases q; rw [c]; exact e
    · rw [if_neg c] at q; exact k _ _ (x _ _ q)
  · unfold withObj at q
    by_cases c : b = a
    · rw [c]; exact .inr n
    · rw [if_neg c] at q; exact .inl q
theorem After.push {s : Shared} {H : PHeap} {o : Obj} (x : SubH H s.heap) (hf : o.isFreed = false) : After s H { s with heap := s.heap.push o } (withObj H s.heap.objs.size o) :=
  After.new (t := s.toks) x (.push _ _) (get_size_none _) (Heap.get?_push_size _ hf)
theorem withObj_self (H : PHeap) (a : Addr) (o : Obj) : withObj H a o a = some o := if_pos rfl

/-! the room of a call -/
structure Room (n : Nat) (A : Around) : Prop where
  handled : A.handled = none
  depth : A.depth + n ≤ 900
  units : A.units + 8 * n ≤ 9000
theorem Room.less {n m : Nat} {A : Around} (r : Room n A) (h : m ≤ n) : Room m A := ⟨r.handled, by have := r.depth; omega, by have := r.units; omega⟩
theorem Room.lim {n : Nat} {A : Around} (r : Room n A) : A.depth < recursionLimit := by have := r.depth; show A.depth < 1000; omega
theorem Room.cl {n : Nat} {A : Around} (r : Room n A) : A.units < cLine := by have := r.units; show A.units < 9900; omega
theorem Room.deeper {n : Nat} {A : Around} (r : Room (n + 1) A) (env : PySem.Env) : Room n (A.deeper env) :=
  ⟨r.handled, by show A.depth + 1 + n ≤ 900; have := r.depth; omega, by show A.units + 3 + 8 * n ≤ 9000; have := r.units; omega⟩

end Mine
end

/-! Ops -/
section
open PySem PySem.W PyProof.Rows
set_option maxRecDepth 100000
namespace Mine

theorem gate_some {b : Bool} {x : Option PV} {r : PV} (h : gate b x = some r) : b = true ∧ x = some r := by
  cases b with
  | false => cases h
  | true => exact ⟨rfl, h⟩
theorem lenOk_le {n : Nat} (h : lenOk n = true) : n ≤ 1000000 := of_decide_eq_true h
theorem small_lt {a : Int} (h : small a = true) : a.natAbs < 18446744073709551616 := of_decide_eq_true h
theorem and_split {a b : Bool} (h : (a && b) = true) : a = true ∧ b = true := Bool.and_eq_true_iff.mp h

variable {prog : Program} {w : World} {A : Around} {E : Value → Shared → Prop} {s : Shared} {H : PHeap} {Q : Value → Shared → Prop} {k : K} {r : PV}

/-- what the rest of a step takes -/
def Next (prog : Program) (w : World) (s : Shared) (H : PHeap) (k : K) (r : PV) (Q : Value → Shared → Prop) : Prop :=
  ∀ u p s' H', After s H s' H' → Rep prog w H' u p → k p = some r → Q u s'

theorem next_flat (hs : SubH H s.heap) (N : Next prog w s H k r Q) {u : Value} {p : PV} {t : Nat} (h : Rep prog w H u p) (e : k p = some r) : Q u { s with toks := t } :=
  N u p _ H (After.tok hs) h e

theorem repL_isList {vs : List Value} {a : Addr} {o : Obj} {n : Nat} (hs : SubH H s.heap) (h : H a = some o) (c : o.cls = .type "list") (d : o.data = .seq vs.toArray n) : s.heap.IsList a vs.toArray :=
  ⟨o, hs _ _ h, c, n, d⟩

theorem intBits_small {a : Int} (h : a.natAbs < 18446744073709551616) : Builtin.Int.intBits a ≤ 64 := PySem.intBits_le_iff.mpr (by omega)

theorem add_lists_S {l b : Addr} {vs ws : List Value} (hl : s.heap.IsList l vs.toArray) (hb : s.heap.IsList b ws.toArray)
    (h : Q (.ref s.heap.objs.size) { s with heap := s.heap.push { cls := .type "list", data := .seq (vs ++ ws).toArray } }) (hsz : vs.length + ws.length ≤ 1000000) :
    wpAny (model prog w) A (binaryOp .Add (.ref l) (.ref b)) Q E s := by
  obtain ⟨⟨cls, dd, data, sl⟩, ho, hc, n, hd⟩ := hl
  obtain ⟨⟨cls2, dd2, data2, sl2⟩, ho2, hc2, n2, hd2⟩ := hb
  simp only at hc hd hc2 hd2
  subst hc hd hc2 hd2
  refine concat_meets ⟨_, ho, rfl⟩ ⟨_, ho2, rfl⟩ noFill_list_add seq_list_add PySem.F.slot_list_add PySem.F.entry_list_add (PySem.F.args_list_add_2 _ _) (list_addW l b vs.toArray ws.toArray n n2 dd dd2 sl sl2 ?_) ⟨ho, ho2, ?_⟩
  · rw [sizeLine_eq]; simp; omega
  · have e : vs.toArray ++ ws.toArray = (vs ++ ws).toArray := by simp
    rw [e]
    exact h

theorem run_lshift_bool {a : Bool} {b : Int} {u : Tok} (h0 : 0 ≤ b) (h1 : b ≤ 10000) : Gives (Builtin.«int.__lshift__» ⟨[.bool a, .int b u], []⟩) (.int ((bif a then 1 else 0) * 2 ^ b.toNat)) := .of_wp fun M A E s Q h => by
  cases a with
  | false =>
    show wpAny _ _ (if b < 0 then _ else _) _ _ s
    rw [if_neg (by omega)]
    show wpAny _ _ (if ((0 : Int) == 0) = true then _ else _) _ _ s
    rw [if_pos (by decide)]
    have e : (bif false then (1 : Int) else 0) * 2 ^ b.toNat = 0 := Int.zero_mul _
    rw [e] at h
    repeat (first | refine wpAny_pure ?_ | refine wpAny_mkInt ?_ | refine wpAny_rule ?_ | refine wpAny_bind ?_)
    exact ⟨_, rfl, h⟩
  | true =>
    show wpAny _ _ (if b < 0 then _ else _) _ _ s
    rw [if_neg (by omega)]
    show wpAny _ _ (if ((1 : Int) == 0) = true then _ else _) _ _ s
    rw [if_neg (by decide)]
    have hb : Builtin.Int.intBits 1 = 1 := by decide
    have h3 : ¬ (((Builtin.Int.intBits 1 : Int) + 29) / 30 + b / 30 + (if b % 30 == 0 then 0 else 1) > Builtin.maxDigits) := by
      unfold Builtin.maxDigits
      rw [hb]
      split <;> omega
    show wpAny _ _ (if ((Builtin.Int.intBits 1 : Int) + 29) / 30 + b / 30 + (if b % 30 == 0 then 0 else 1) > Builtin.maxDigits then _ else _) _ _ s
    rw [if_neg h3]
    show wpAny _ _ (if Builtin.Int.intTooBig ((Builtin.Int.intBits 1 : Int) + b) = true then _ else _) _ _ s
    have hbig : Builtin.Int.intTooBig ((Builtin.Int.intBits 1 : Int) + b) = false := decide_eq_false (Int.not_lt.mpr (by
      rw [hb]
      show (1 : Int) + b ≤ 2 ^ 27
      omega))
    rw [if_neg (by rw [hbig]; exact Bool.false_ne_true)]
    repeat (first | refine wpAny_pure ?_ | refine wpAny_mkInt ?_ | refine wpAny_rule ?_ | refine wpAny_bind ?_)
    exact ⟨_, rfl, h⟩
theorem lshift_bool {a : Bool} {b : Int} {u : Tok} (h0 : 0 ≤ b) (h1 : b ≤ 10000) (h : Q (.int ((bif a then 1 else 0) * 2 ^ b.toNat) s.toks) { s with toks := s.toks + 1 }) : wpAny (model prog w) A (binaryOp .LShift (.bool a) (.int b u)) Q E s :=
  binaryOp_left_gives (op := .LShift) (T := "bool") (U := "int") (by decide) rfl (fun s' => typeIs_int s' b u) F.fills_bool_lshift F.fills_int_lshift F.sub_int_bool F.slot_bool_lshift F.slot_int_rlshift F.entry_int_lshift (F.args_int_lshift_2 _ _)
    (run_lshift_bool h0 h1) trivial h

theorem binK_sound {op : Operator} {a b : PV} {u v : Value} (hs : SubH H s.heap) (R : A.handled = none) (ha : Rep prog w H u a) (hb : Rep prog w H v b) (e : binK op a b k = some r)
    (N : Next prog w s H k r Q) : wpAny (model prog w) A (binaryOp op u v) Q E s := by
  cases op with
  | Add =>
    cases ha with
    | int a t => cases hb with
      | int b u => exact add_int (next_flat hs N (.int _ _) e)
      | _ => cases e
    | bytes a t => cases hb with
      | bytes b u =>
        obtain ⟨g, e⟩ := gate_some e
        have hl := lenOk_le g
        refine KBy.add_bytes (by simp; omega) fun t' k' => ?_
        have q : a.toArray ++ b.toArray = (a ++ b).toArray := by simp
        rw [q]
        exact next_flat hs N (.bytes _ _) e
      | _ => cases e
    | str a t => cases hb with
      | str b u =>
        obtain ⟨g, e⟩ := gate_some e
        have hl := lenOk_le g
        exact add_str (fun t' k' => next_flat hs N (.str _ _) e) (by rw [sizeLine_eq]; omega)
      | _ => cases e
    | lst ha hc hd hr => cases hb with
      | lst hb hc2 hd2 hr2 =>
        obtain ⟨g, e⟩ := gate_some e
        have hl := lenOk_le g
        refine add_lists_S (repL_isList hs ha hc hd) (repL_isList hs hb hc2 hd2) ?_ (by rw [hr.length, hr2.length]; exact hl)
        exact N _ _ _ _ (After.push hs rfl) (.lst (withObj_self _ _ _) rfl rfl ((hr.append hr2).mono (After.push hs rfl).grow)) e
      | _ => cases e
    | _ => cases e
  | Sub =>
    cases ha with
    | int a t => cases hb with
      | int b u => exact sub_int (next_flat hs N (.int _ _) e)
      | _ => cases e
    | _ => cases e
  | Mult =>
    cases ha with
    | int a t => cases hb with
      | int b u =>
        obtain ⟨g, e⟩ := gate_some e
        exact mul_int (next_flat hs N (.int _ _) e) (IntMulOk.of_left (intBits_small (small_lt (and_split g).1)))
      | _ => cases e
    | bytes a t => cases hb with
      | int b u =>
        obtain ⟨g, e⟩ := gate_some e
        obtain ⟨g, g3⟩ := and_split g
        obtain ⟨g1, g2⟩ := and_split g
        have h1 := of_decide_eq_true g1
        have h2 := of_decide_eq_true g2
        have h3 := of_decide_eq_true g3
        refine PySem.W.bytes_mul_any (by rintro rfl; cases h3) (by omega) (by omega) (by omega) fun t' k' => ?_
        have q : ∀ n, (List.replicate n a).flatten = bytesMul a n := fun n => by
          induction n with
          | zero => rfl
          | succ n ih => rw [List.replicate_succ, List.flatten_cons, ih]; rfl
        rw [q]
        exact next_flat hs N (.bytes _ _) e
      | _ => cases e
    | _ => cases e
  | FloorDiv =>
    cases ha with
    | int a t => cases hb with
      | int b u =>
        obtain ⟨g, e⟩ := gate_some e
        obtain ⟨g1, g2⟩ := and_split g
        have h1 := of_decide_eq_true g1
        have h2 := of_decide_eq_true g2
        exact floordiv_int (by omega) (next_flat hs N (.int _ _) e) (.inl (PyProof.noPylong_small (by omega)))
      | _ => cases e
    | _ => cases e
  | Mod =>
    cases ha with
    | int a t => cases hb with
      | int b u =>
        obtain ⟨g1, e⟩ := gate_some e
        have h1 := of_decide_eq_true g1
        exact mod_int' (by omega) (next_flat hs N (.int _ _) e)
      | _ => cases e
    | _ => cases e
  | Pow =>
    cases ha with
    | int a t => cases hb with
      | int b u =>
        obtain ⟨g, e⟩ := gate_some e
        obtain ⟨g, g3⟩ := and_split g
        obtain ⟨g1, g2⟩ := and_split g
        have h1 := of_decide_eq_true g1
        have h2 := of_decide_eq_true g2
        have h3 := of_decide_eq_true g3
        have h4 : Builtin.Int.intBits a ≤ 9 := PySem.intBits_le_iff.mpr (by omega)
        refine pow_int h1 ?_ (next_flat hs N (.int _ _) e)
        have : (Builtin.Int.intBits a : Int) * b ≤ 9 * 10000 := Int.mul_le_mul (by omega) h2 h1 (by omega)
        omega
      | _ => cases e
    | _ => cases e
  | LShift =>
    cases ha with
    | int a t => cases hb with
      | int b u =>
        obtain ⟨g, e⟩ := gate_some e
        obtain ⟨g, g3⟩ := and_split g
        obtain ⟨g1, g2⟩ := and_split g
        have h1 := of_decide_eq_true g1
        have h2 := of_decide_eq_true g2
        exact lshift_int_small h1 (by omega) (small_lt g3) (next_flat hs N (.int _ _) e)
      | _ => cases e
    | bool a => cases hb with
      | int b u =>
        obtain ⟨g, e⟩ := gate_some e
        obtain ⟨g1, g2⟩ := and_split g
        have h1 := of_decide_eq_true g1
        have h2 := of_decide_eq_true g2
        exact lshift_bool h1 (by omega) (next_flat hs N (.int _ _) e)
      | _ => cases e
    | _ => cases e
  | RShift =>
    cases ha with
    | int a t => cases hb with
      | int b u =>
        obtain ⟨g, e⟩ := gate_some e
        obtain ⟨g1, g2⟩ := and_split g
        exact rshift_int (of_decide_eq_true g1) (next_flat hs N (.int _ _) e)
      | _ => cases e
    | _ => cases e
  | BitAnd =>
    cases ha with
    | int a t => cases hb with
      | int b u => exact and_int (next_flat hs N (.int _ _) e)
      | _ => cases e
    | _ => cases e
  | BitOr =>
    cases ha with
    | int a t => cases hb with
      | int b u => exact or_int (next_flat hs N (.int _ _) e)
      | _ => cases e
    | _ => cases e
  | _ => cases e

/-- a truth's next -/
def NextB (s : Shared) (k : Bool → Option PV) (r : PV) (Q : Bool → Shared → Prop) : Prop := ∀ b t, k b = some r → Q b { s with toks := t }
theorem truK_sound {a : PV} {u : Value} {k : Bool → Option PV} {Q : Bool → Shared → Prop} (hs : SubH H s.heap) (ha : Rep prog w H u a) (e : truK a k = some r) (N : NextB s k r Q) :
    wpAny (model prog w) A (truthy u) Q E s := by
  cases ha with
  | none => exact truthy_none (N _ s.toks e)
  | bool b => exact wpAny_truthy_bool (N _ s.toks e)
  | int i t => exact truthy_int (N _ s.toks e)
  | str x t =>
    obtain ⟨g, e⟩ := gate_some e
    have hl := lenOk_le g
    refine P.truthy_str (by omega) (N _ _ ?_)
    have q : ((x.length : Int) != 0) = decide (x.length ≠ 0) := by
      rw [Bool.eq_iff_iff]; simp
    rw [q]; exact e
  | bytes b t =>
    obtain ⟨g, e⟩ := gate_some e
    have hl := lenOk_le g
    refine truthy_bytes (by simp; omega) (N _ _ ?_)
    have q : ((b.toArray.size : Int) != 0) = !b.isEmpty := by
      rw [Bool.eq_iff_iff]; simp
    rw [q]; exact e
  | lst ha hc hd hr =>
    obtain ⟨g, e⟩ := gate_some e
    have hl := lenOk_le g
    refine wpAny_truthy_list (repL_isList hs ha hc hd) (by simp; have := hr.length; omega) (N _ _ ?_)
    have q : ∀ {vs : List Value} {ps : List PV}, RepL prog w H vs ps → (!vs.toArray.isEmpty) = !ps.isEmpty := fun h => by cases h <;> rfl
    rw [q hr]; exact e
  | tup ha hc hd hr =>
    obtain ⟨g, e⟩ := gate_some e
    have hl := lenOk_le g
    refine truthy_tuple ⟨_, hs _ _ ha, hc.1, _, hd⟩ (by simp; have := hr.length; omega) (N _ _ ?_)
    have q : ∀ {vs : List Value} {ps : List PV}, RepL prog w H vs ps → (!vs.toArray.isEmpty) = !ps.isEmpty := fun h => by cases h <;> rfl
    rw [q hr]; exact e
  | _ => cases e
end Mine
end

/-! Ops2 -/
section
open PySem PySem.W PyProof.Rows
set_option maxRecDepth 100000
namespace Mine
variable {prog : Program} {w : World} {A : Around} {E : Value → Shared → Prop} {s : Shared} {H : PHeap} {Q : Value → Shared → Prop} {k : K} {r : PV}

mutual
theorem rep_reads {h : Heap} (hs : SubH H h) : ∀ {v : Value} {p : PV} {d : PyData}, Rep prog w H v p → toPy p = some d → ∃ as, Reads h v d as
  | _, _, _, .none, e => by cases e; exact ⟨_, .none⟩
  | _, _, _, .bool b, e => by cases e; exact ⟨_, .bool b⟩
  | _, _, _, .int i t, e => by cases e; exact ⟨_, .int i t⟩
  | _, _, _, .str x t, e => by cases e; exact ⟨_, .str x t⟩
  | _, _, _, .bytes b t, e => by simp [toPy] at e
  | _, _, _, .tup ha c d r, e => by
    simp only [toPy] at e
    split at e
    · rename_i ds q
      cases e
      obtain ⟨as, z⟩ := repL_reads hs r q
      exact ⟨as, reads_tuple_at (hs _ _ ha) c.1 d (by simpa using z)⟩
    · cases e
  | _, _, _, .lst ha c d r, e => by
    simp only [toPy] at e
    split at e
    · rename_i ds q
      cases e
      obtain ⟨as, z⟩ := repL_reads hs r q
      exact ⟨_, reads_list_at (hs _ _ ha) c d (by simpa using z)⟩
    · cases e
  | _, _, _, .rng _ _, e => by simp [toPy] at e
  | _, _, _, .dci _ _ _ _, e => by simp [toPy] at e
  | _, _, _, .dcs _ _ _ _, e => by simp [toPy] at e
  | _, _, _, .raw _, e => by simp [toPy] at e
theorem repL_reads {h : Heap} (hs : SubH H h) : ∀ {vs : List Value} {ps : List PV} {ds : List PyData}, RepL prog w H vs ps → toPyL ps = some ds → ∃ as, ReadsAll h vs ds as
  | _, _, _, .nil, e => by cases e; exact ⟨_, .nil⟩
  | _, _, _, .cons hd tl, e => by
    simp only [toPyL] at e
    split at e
    · rename_i d q
      split at e
      · rename_i ds q2
        cases e
        obtain ⟨as, z⟩ := rep_reads hs hd q
        obtain ⟨bs, y⟩ := repL_reads hs tl q2
        exact ⟨_, .cons z y⟩
      · cases e
    · cases e
end

theorem rep_none {v : Value} {p : PV} {c : Bool} (h : Rep prog w H v p) (e : isNoneP p = some c) : PySem.plainIs v .none = true ∧ ((v = .none ∧ c = true) ∨ (v ≠ .none ∧ c = false)) := by
  cases h <;> simp [isNoneP] at e <;> subst e <;> refine ⟨rfl, ?_⟩ <;> first | exact .inl ⟨rfl, rfl⟩ | exact .inr ⟨(fun x => by cases x), rfl⟩

/-- a comparison's next: the value is a bool -/
def NextC (s : Shared) (k : Bool → Option PV) (r : PV) (Q : Value → Shared → Prop) : Prop := ∀ b t, k b = some r → Q (.bool b) { s with toks := t }

theorem lookup_isSome_text {v : Option Value} {x : Option Str} (h : TextAt v x) : v.isSome = x.isSome := by
  cases x with
  | none => rw [show v = none from h]; rfl
  | some x => obtain ⟨t, e⟩ := h; rw [e]; rfl
theorem lookup_isSome_bytes {v : Option Value} {x : Option (List UInt8)} (h : BytesAt v x) : v.isSome = x.isSome := by
  cases x with
  | none => rw [show v = none from h]; rfl
  | some x => obtain ⟨t, e⟩ := h; rw [e]; rfl

theorem cmpK_sound {op : CmpOp} {a b : PV} {u v : Value} {k : Bool → Option PV} {n : Nat} (hs : SubH H s.heap) (R : Room n A) (ha : Rep prog w H u a) (hb : Rep prog w H v b) (e : cmpK op a b k = some r)
    (N : NextC s k r Q) : wpAny (model prog w) A (compareOp op u v) Q E s := by
  cases op with
  | Eq =>
    cases ha with
    | int a t => cases hb with
      | int b u => exact eq_int (N _ s.toks e)
      | _ => cases e
    | str a t => cases hb with
      | str b u => exact eq_str (N _ s.toks (by rw [show (a == b) = decide (a = b) from by rw [Bool.eq_iff_iff]; simp]; exact e))
      | _ => cases e
    | bytes a t => cases hb with
      | bytes b u => exact PySem.W.eq_bytes (N _ s.toks (by rw [show (a.toArray.toList == b.toArray.toList) = decide (a = b) from by rw [Bool.eq_iff_iff]; simp]; exact e))
      | _ => cases e
    | _ => cases e
  | NotEq =>
    have deep : ∀ {p q : PV}, Rep prog w H u p → Rep prog w H v q → eqPyK p q (fun c => k (!c)) = some r → wpAny (model prog w) A (compareOp .NotEq u v) Q E s := by
      intro p q hp hq e
      unfold eqPyK at e
      split at e
      · rename_i x ex
        split at e
        · rename_i y ey
          obtain ⟨g, e⟩ := gate_some e
          obtain ⟨g1, g2⟩ := and_split g
          obtain ⟨as, ra⟩ := rep_reads hs hp ex
          obtain ⟨bs, rb⟩ := rep_reads hs hq ey
          exact ne_dataH ra rb g1 g2 (by have := R.units; show A.units + 64 < 9900; omega) (N _ s.toks e)
        · cases e
      · cases e
    cases ha with
    | int a t => cases hb with
      | int b u => exact ne_int (N _ s.toks e)
      | _ => cases e
    | str a t => cases hb with
      | str b u => exact ne_str (N _ s.toks (by rw [show (a != b) = !decide (a = b) from by rw [Bool.eq_iff_iff]; simp]; exact e))
      | _ => cases e
    | bytes a t => cases hb with
      | bytes b u => exact ne_bytes (N _ s.toks (by rw [show (a.toArray.toList != b.toArray.toList) = !decide (a = b) from by rw [Bool.eq_iff_iff]; simp]; exact e))
      | _ => cases e
    | lst h1 h2 h3 h4 => cases hb with
      | lst g1 g2 g3 g4 => exact deep (.lst h1 h2 h3 h4) (.lst g1 g2 g3 g4) e
      | _ => cases e
    | tup h1 h2 h3 h4 => cases hb with
      | tup g1 g2 g3 g4 => exact deep (.tup h1 h2 h3 h4) (.tup g1 g2 g3 g4) e
      | _ => cases e
    | _ => cases e
  | Lt =>
    cases ha with
    | int a t => cases hb with
      | int b u => exact lt_int (N _ s.toks e)
      | _ => cases e
    | _ => cases e
  | LtE =>
    cases ha with
    | int a t => cases hb with
      | int b u => exact le_int (N _ s.toks e)
      | _ => cases e
    | _ => cases e
  | Gt =>
    cases ha with
    | int a t => cases hb with
      | int b u => exact gt_int (N _ s.toks e)
      | _ => cases e
    | _ => cases e
  | GtE =>
    cases ha with
    | int a t => cases hb with
      | int b u => exact ge_int (N _ s.toks e)
      | _ => cases e
    | _ => cases e
  | Is =>
    cases hb with
    | none =>
      simp only [cmpK] at e
      split at e
      · rename_i c q
        obtain ⟨pl, q⟩ := rep_none ha q
        rcases q with ⟨rfl, rfl⟩ | ⟨hn, rfl⟩
        · exact wpAny_is_self rfl (N _ s.toks e)
        · exact wpAny_is_other pl hn (N _ s.toks e)
      · cases e
    | _ => cases e
  | IsNot =>
    cases hb with
    | none =>
      simp only [cmpK] at e
      split at e
      · rename_i c q
        obtain ⟨pl, q⟩ := rep_none ha q
        rcases q with ⟨rfl, rfl⟩ | ⟨hn, rfl⟩
        · exact wpAny_isNot_self rfl (N _ s.toks e)
        · exact wpAny_isNot_other pl hn (N _ s.toks e)
      · cases e
    | raw v =>
      cases v with
      | type y =>
        cases ha with
        | raw u =>
          cases u with
          | type x =>
            refine wpAny_isNot_plain rfl (N _ s.toks ?_)
            have : (Value.type x == Value.type y) = decide (x = y) := by rw [Bool.eq_iff_iff]; simp
            rw [this]; exact e
          | _ => cases e
        | _ => cases e
      | ref y =>
        cases ha with
        | raw u =>
          cases u with
          | ref x =>
            obtain ⟨g2, e2⟩ := gate_some e
            have g3 := of_decide_eq_true g2
            subst g3
            exact wpAny_isNot_ref_self (N _ s.toks e2)
          | _ => cases e
        | _ => cases e
      | _ => cases e
    | _ => cases e
  | In =>
    cases ha with
    | int a t => cases hb with
      | dci h1 h2 h3 h4 => exact wpAny_in_of (intKind_is prog w a t) h2 (h3 _ (hs _ _ h1)) (N _ _ (by rw [lookup_isSome_text (h4 a)]; exact e))
      | _ => cases e
    | str a t => cases hb with
      | dcs h1 h2 h3 h4 => exact wpAny_in_of (strKind_is prog w a t) h2 (h3 _ (hs _ _ h1)) (N _ _ (by rw [lookup_isSome_bytes (h4 a)]; exact e))
      | _ => cases e
    | _ => cases e
  | NotIn => cases e

theorem idxK_some : ∀ {l : List PV} {i : Int}, idxK l i k = some r → 0 ≤ i ∧ ∃ p, l[i.toNat]? = some p ∧ i < l.length ∧ k p = some r
  | [], _, e => by cases e
  | p :: l, i, e => by
    simp only [idxK] at e
    by_cases h : i = 0
    · subst h
      exact ⟨Int.le_refl _, p, rfl, by simp, e⟩
    · rw [show (decide (i = 0)) = false from decide_eq_false h] at e
      obtain ⟨h0, q, e1, e2, e3⟩ := idxK_some e
      have e4 : i.toNat = (i - 1).toNat + 1 := by omega
      refine ⟨by omega, q, ?_, by simp; omega, e3⟩
      rw [e4, List.getElem?_cons_succ]; exact e1

theorem itemK_sound {o i : PV} {u v : Value} (hs : SubH H s.heap) (ho : Rep prog w H u o) (hi : Rep prog w H v i) (e : itemK o i k = some r)
    (N : Next prog w s H k r Q) : wpAny (model prog w) A (getItem u v) Q E s := by
  cases ho with
  | bytes b t => cases hi with
    | int i t' =>
      simp only [itemK] at e
      by_cases h : 0 ≤ i
      · rw [decide_eq_true h] at e
        obtain ⟨g, e⟩ := gate_some e
        obtain ⟨g1, g2⟩ := and_split g
        have h1 := of_decide_eq_true g1
        have h2 := lenOk_le g2
        exact PySem.W.getItem_bytes (by omega) h h1 (next_flat hs N (.int _ _) e)
      · rw [decide_eq_false h] at e
        obtain ⟨g, e⟩ := gate_some e
        obtain ⟨g1, g2⟩ := and_split g
        have h1 := of_decide_eq_true g1
        have h2 := lenOk_le g2
        refine getItem_gives (PySem.W.typeIs_bytes s _ t) (by decide) PySem.W.FB.slot_bytes_getitem PySem.W.FB.entry_bytes_getitem (PySem.W.FB.args_bytes_getitem_2 _ _) (PySem.W.gives_bytes_getitem _ i t t' (b.getD (i + b.length).toNat 0) ?_ ?_) (next_flat hs N (.int _ _) e)
        · simp only [Builtin.Bytes.fitsIndex, Bool.and_eq_true, decide_eq_true_eq]; omega
        · have hl : (i + b.length).toNat < b.length := by omega
          have : seqIndex? i b.toArray.size = some (i + b.length).toNat := by
            have hn : i < 0 := by omega
            simp [seqIndex?, hn]; omega
          rw [this]; simp [hl]
    | _ => cases e
  | lst h1 h2 h3 h4 => cases hi with
    | int i t' =>
      simp only [itemK] at e
      obtain ⟨g, e⟩ := gate_some e
      have g := lenOk_le g
      have hl := repL_isList hs h1 h2 h3
      by_cases h : 0 ≤ i
      · rw [decide_eq_true h] at e
        obtain ⟨_, p, e1, e2, e3⟩ := idxK_some e
        obtain ⟨x, ex, hx⟩ := h4.get e1
        exact wpAny_getItem_list hl h (by omega) (by simpa using ex) (N _ _ _ _ (After.refl hs) hx e3)
      · rw [decide_eq_false h] at e
        obtain ⟨h0, p, e1, e2, e3⟩ := idxK_some e
        rw [List.length_reverse] at e2
        obtain ⟨e4, _⟩ := List.getElem?_eq_some_iff.mp e1
        rw [List.length_reverse] at e4
        rw [List.getElem?_reverse e4] at e1
        obtain ⟨x, ex, hx⟩ := h4.get e1
        have hlen := h4.length
        refine wpAny_getItem_list_neg hl (by omega) (by simp; omega) (by omega) ?_ (N _ _ _ _ (After.refl hs) hx e3)
        rw [List.getElem?_toArray, ← ex]
        congr 1
        simp; omega
    | _ => cases e
  | tup h1 h2 h3 h4 => cases hi with
    | int i t' =>
      simp only [itemK] at e
      obtain ⟨g, e⟩ := gate_some e
      obtain ⟨g, _⟩ := and_split g
      have g := lenOk_le g
      obtain ⟨h0, p, e1, e2, e3⟩ := idxK_some e
      obtain ⟨x, ex, hx⟩ := h4.get e1
      have hlen := h4.length
      refine getItem_tuple (j := i.toNat) ⟨_, hs _ _ h1, h2.1, _, h3⟩ (by omega) (by omega) ?_ (by simpa using ex) (N _ _ _ _ (After.refl hs) hx e3)
      have hn : ¬ i < 0 := by omega
      simp [seqIndex?, hn, h0]; omega
    | _ => cases e
  | dci h1 h2 h3 h4 => cases hi with
    | int i t' =>
      simp only [itemK] at e
      split at e
      · rename_i x ex
        have q := h4 i
        rw [ex] at q
        obtain ⟨t, q⟩ := q
        exact wpAny_getItem_of (intKind_is prog w i t') (h3 _ (hs _ _ h1)) q (next_flat hs N (.str _ _) e)
      · cases e
    | _ => cases e
  | dcs h1 h2 h3 h4 => cases hi with
    | str i t' =>
      simp only [itemK] at e
      split at e
      · rename_i x ex
        have q := h4 i
        rw [ex] at q
        obtain ⟨t, q⟩ := q
        exact wpAny_getItem_of (strKind_is prog w i t') (h3 _ (hs _ _ h1)) q (next_flat hs N (.bytes _ _) e)
      · cases e
    | _ => cases e
  | _ => cases e

theorem slicePick_cut {vs : List Value} {lo hi : Option Int} : slicePick vs.toArray lo hi none = (cutL vs lo hi).toArray := by
  unfold slicePick cutL
  simp only [List.size_toArray]
  rw [sliceBounds_plain]
  simp only [sliceRange_one, pick_run]
theorem RepL.cut {vs : List Value} {ps : List PV} (h : RepL prog w H vs ps) (a b : Option Int) : RepL prog w H (cutL vs a b) (cutL ps a b) := by
  unfold cutL
  rw [h.length]
  exact (h.drop _).take _
theorem opt_part {v : Value} {p : PV} {a : Option Int} (h : Rep prog w H v p) (e : optI p = some a) : IsPart v a := by
  cases h with
  | none => cases e; exact .none
  | int i t =>
    simp only [optI] at e
    cases q : decide (i.natAbs < 1000000000) with
    | true => rw [q] at e; cases e; exact .int i t
    | false => rw [q] at e; cases e
  | _ => simp [optI] at e

theorem sliceK_sound {o a b : PV} {u va vb : Value} {sl : Addr} (hs : SubH H s.heap) (ho : Rep prog w H u o) (ha : Rep prog w H va a) (hb : Rep prog w H vb b) (e : sliceK o a b k = some r)
    (hsl : s.heap.IsSliceOf sl va vb .none) (N : Next prog w s H k r Q) : wpAny (model prog w) A (getItem u (.ref sl)) Q E s := by
  unfold sliceK at e
  split at e
  · rename_i x y ex ey
    have px := opt_part ha ex
    have py := opt_part hb ey
    cases ho with
    | bytes l t =>
      obtain ⟨g, e⟩ := gate_some e
      have g := lenOk_le g
      refine getItem_meets (PySem.W.typeIs_bytes _ _ _) (by decide) PySem.W.FB.slot_bytes_getitem PySem.W.FB.entry_bytes_getitem (PySem.W.FB.args_bytes_getitem_2 _ _) (KBc.meets_slice2 l.toArray t _ px py) ⟨hsl, ?_, fun t' k' => ?_⟩
      · refine Nat.le_trans (KBc.size_picked_le _ _ _) ?_
        rw [sizeLine_eq]; simp; omega
      · have q : KBy.picked l.toArray x y = (cutL l x y).toArray := by
          rw [KBc.picked_eq]
          simp [cutL]
        rw [q]
        exact next_flat hs N (.bytes _ _) e
    | lst h1 h2 h3 h4 =>
      obtain ⟨g, e⟩ := gate_some e
      have g := lenOk_le g
      have hlen := h4.length
      refine wpAny_getItem_list_slice (repL_isList hs h1 h2 h3) hsl px py .none (by simp) ?_ (by rw [sizeLine_eq]; simp; omega)
      rw [slicePick_cut]
      exact N _ _ _ _ (After.push hs rfl) (.lst (withObj_self _ _ _) rfl rfl ((h4.cut x y).mono (After.push hs rfl).grow)) e
    | _ => cases e
  · cases e
end Mine
end

/-! Eval -/
section
open PySem PySem.W PyProof.Rows
set_option maxRecDepth 100000
namespace Mine

/-! names -/
def nameOk (x : Str) : Prop := (x == ("__debug__" : Str)) = false ∧ (x == ("__classdict__" : Str)) = false
def GlobIs (h : Heap) (x : Str) (v : Value) : Prop := ∃ mg mb, h.Ns mainGlobals mg ∧ h.Ns builtinsNs mb ∧ (mg x = some v ∨ (mg x = none ∧ mb x = some v))
theorem GlobIs.keeps {h h' : Heap} {x : Str} {v : Value} (g : GlobIs h x v) (k : Keep h h') : GlobIs h' x v :=
  let ⟨mg, mb, a, b, c⟩ := g; ⟨mg, mb, a.keeps k, b.keeps k, c⟩
def VarIs (env : PySem.Env) (h : Heap) (x : Str) (v : Value) : Prop :=
  nameOk x ∧ ((env.kindOf x = some .local ∧ ∃ m, h.Ns env.locals m ∧ m x = some v) ∨
    ((env.kindOf x = some .cell ∨ env.kindOf x = some .free) ∧ ∃ c, env.cells.lookup x = some c ∧ h.IsCell c (some v)))
theorem VarIs.keeps {env : PySem.Env} {h h' : Heap} {x : Str} {v : Value} (y : VarIs env h x v) (k : Keep h h') : VarIs env h' x v :=
  ⟨y.1, y.2.imp (fun ⟨a, m, b, c⟩ => ⟨a, m, b.keeps k, c⟩) fun ⟨a, c, b, d⟩ => ⟨a, c, b, d.keeps k⟩⟩

structure KindOk (sc : Scope) (env : PySem.Env) : Prop where
  loc : ∀ x, sc.names.lookup x = some .local → env.kindOf x = some .local
  cel : ∀ x, sc.names.lookup x = some .cell → env.kindOf x = some .cell
structure EnvOk (sc : Scope) (env : PySem.Env) : Prop extends KindOk sc env where
  cells : ∀ x, sc.names.lookup x = some .cell → ∃ c, env.cells.lookup x = some c
  kind : env.scope.kind = .function
  glob : env.globals = mainGlobals
  blt : env.builtins = builtinsNs
  names : ∀ x, sc.names.lookup x = some .globalImplicit → env.kindOf x = some .globalImplicit
  inj : ∀ x y c, env.cells.lookup x = some c → env.cells.lookup y = some c → x = y

section
variable (prog : Program) (w : World) (h₁ : Heap)
def Reads (env : PySem.Env) (ρ : Rd) (H : PHeap) (h : Heap) : Prop := ∀ x p, ρ x = some p → ∃ v, VarIs env h x v ∧ Rep prog w H v p

structure Base (H : PHeap) (s : Shared) : Prop where
  keep : Keep h₁ s.heap
  seen : Grow h₁.get? H
  sub : SubH H s.heap
structure Good (env : PySem.Env) (ρ : Rd) (H : PHeap) (s : Shared) : Prop where
  base : Base h₁ H s
  reads : Reads prog w env ρ H s.heap
end
section
variable {prog : Program} {w : World} {h₁ : Heap} {env : PySem.Env} {ρ : Rd} {H H' : PHeap} {s s' : Shared}
theorem Base.after (g : Base h₁ H s) (a : After s H s' H') : Base h₁ H' s' := ⟨g.keep.trans a.keep, fun x o e => a.grow x o (g.seen x o e), a.sub⟩
theorem Reads.mono (g : Reads prog w env ρ H s.heap) (k : Keep s.heap s'.heap) (gr : Grow H H') : Reads prog w env ρ H' s'.heap := fun x p e =>
  let ⟨v, a, b⟩ := g x p e; ⟨v, a.keeps k, b.mono gr⟩
theorem Good.after (g : Good prog w h₁ env ρ H s) (a : After s H s' H') : Good prog w h₁ env ρ H' s' := ⟨g.base.after a, g.reads.mono a.keep a.grow⟩
end

inductive RepK (prog : Program) (w : World) (H : PHeap) : List (Str × Value) → List (Str × PV) → Prop
  | nil : RepK prog w H [] []
  | cons {n : Str} {v : Value} {p : PV} {vs : List (Str × Value)} {ps : List (Str × PV)} : Rep prog w H v p → RepK prog w H vs ps → RepK prog w H ((n, v) :: vs) ((n, p) :: ps)
theorem RepK.mono {prog : Program} {w : World} {H H' : PHeap} (g : Grow H H') {vs : List (Str × Value)} {ps : List (Str × PV)} (h : RepK prog w H vs ps) : RepK prog w H' vs ps := by
  induction h with
  | nil => exact .nil
  | cons a _ ih => exact .cons (a.mono g) ih

def KeeperOk (h : Heap) (f : Value) : Prop := ∀ M : Model, ∃ k, (k = Keeper.frame ∨ k = Keeper.machine ∨ k = Keeper.boundFrame) ∧ Looks M h (keeperOf f) k

section
variable (prog : Program) (w : World) (h₁ : Heap)
/-- the contract of a callee -/
def Meet (n : Nat) (f : Value) (first : List Value) (s₀ : Shared) (H₀ : PHeap) (φ : Fun) : Prop :=
  ∀ (A : Around) (E Q : Value → Shared → Prop) (s : Shared) (H : PHeap) (args : List Value) (kws : List (Str × Value)) (ps : List PV) (ks : List (Str × PV)) (k : K) (r : PV),
    Room n A → Base h₁ H s → After s₀ H₀ s H → RepL prog w H args ps → RepK prog w H kws ks → φ ps ks k = some r → Next prog w s H k r Q → wpAny (model prog w) A (call f (first ++ args) kws) Q E s
def FunOk (n : Nat) (v : Value) (φ : Fun) : Prop := (∀ h, Keep h₁ h → KeeperOk h v) ∧
  ∀ (A : Around) (E Q : Value → Shared → Prop) (s : Shared) (H : PHeap) (args : List Value) (kws : List (Str × Value)) (ps : List PV) (ks : List (Str × PV)) (k : K) (r : PV),
    Room n A → Base h₁ H s → RepL prog w H args ps → RepK prog w H kws ks → φ ps ks k = some r → Next prog w s H k r Q → wpAny (model prog w) A (call v args kws) Q E s
def MethOk (n : Nat) (name : Str) (p : PV) (φ : Fun) : Prop :=
  ∀ (A : Around) (E : Value → Shared → Prop) (Q : Value × List Value → Shared → Prop) (pl : Sem Bool) (s : Shared) (H : PHeap) (v : Value), Room n A → Base h₁ H s → Rep prog w H v p →
    (∀ f first s' H', After s H s' H' → (∀ h, Keep s'.heap h → KeeperOk h f) → Meet prog w h₁ n f first s' H' φ → Q (f, first) s') → wpAny (model prog w) A (getMethod v name pl) Q E s

structure TblOk (n : Nat) (T : Tbl) : Prop where
  gl : ∀ x p, T.gl x = some p → nameOk x ∧ ∃ v, GlobIs h₁ x v ∧ Rep prog w h₁.get? v p
  fn : ∀ f φ, T.fn f = some φ → nameOk f ∧ ∃ v, GlobIs h₁ f v ∧ FunOk prog w h₁ n v φ
  mt : ∀ m p φ, T.mt m p = some φ → MethOk prog w h₁ n m p φ

/-- an expression's reading holds -/
def SndE (n : Nat) (env : PySem.Env) (ρ : Rd) (ev1 : Expr → K → Option PV) : Prop :=
  ∀ (e : Expr) (k : K) (r : PV) (A : Around) (E Q : Value → Shared → Prop) (s : Shared) (H : PHeap), ev1 e k = some r → Room n A → Good prog w h₁ env ρ H s → Next prog w s H k r Q →
    wpAny (model prog w) A (eval e env) Q E s
def NextT (s : Shared) (H : PHeap) (k : Bool → Option PV) (r : PV) (Q : Bool → Shared → Prop) : Prop := ∀ b s' H', After s H s' H' → k b = some r → Q b s'
def SndT (n : Nat) (env : PySem.Env) (ρ : Rd) (tr1 : Expr → (Bool → Option PV) → Option PV) : Prop :=
  ∀ (e : Expr) (k : Bool → Option PV) (r : PV) (A : Around) (E : Value → Shared → Prop) (Q : Bool → Shared → Prop) (s : Shared) (H : PHeap), tr1 e k = some r → Room n A → Good prog w h₁ env ρ H s → NextT s H k r Q →
    wpAny (model prog w) A (isTrue e env (eval e env)) Q E s
end

variable {prog : Program} {w : World} {h₁ : Heap} {n : Nat} {env : PySem.Env} {ρ : Rd} {A : Around} {E Q : Value → Shared → Prop} {s : Shared} {H : PHeap} {k : K} {r : PV}

theorem Next.shift {s' : Shared} {H' : PHeap} (N : Next prog w s H k r Q) (a : After s H s' H') : Next prog w s' H' k r Q := fun u p s'' H'' b h e => N u p s'' H'' (a.trans b) h e
theorem NextT.shift {s' : Shared} {H' : PHeap} {k : Bool → Option PV} {Q : Bool → Shared → Prop} (N : NextT s H k r Q) (a : After s H s' H') : NextT s' H' k r Q := fun b s'' H'' c e => N b s'' H'' (a.trans c) e

theorem name_read {x : Str} {pos : Pos} {v : Value} (hk : env.scope.kind = .function) (h : VarIs env s.heap x v) (q : Q v s) : wpAny (model prog w) A (eval (.Name x pos) env) Q E s := by
  obtain ⟨⟨hd, hc⟩, h⟩ := h
  rcases h with ⟨hl, m, hn, hm⟩ | ⟨hl | hl, c, hcl, hcv⟩
  · exact wpAny_Name (wpAny_loadName_local hk hl hn hm q) hd
  · exact wpAny_Name (wpAny_loadName_cell hk hl hcl hcv q) hd
  · exact wpAny_Name (wpAny_loadName_free hk hl hcl hcv q hc) hd
theorem name_glob {sc : Scope} {x : Str} {pos : Pos} {v : Value} (ok : EnvOk sc env) (hx : sc.names.lookup x = some .globalImplicit) (hd : nameOk x) (h : GlobIs s.heap x v) (q : Q v s) : wpAny (model prog w) A (eval (.Name x pos) env) Q E s := by
  obtain ⟨mg, mb, a, b, c⟩ := h
  refine Calls.Name_function_global ok.kind (ok.names x hx) ?_ hd.1
  rcases c with c | ⟨c, d⟩
  · exact Calls.loadGlobal_global (by rw [ok.glob]; exact a) c q
  · exact Calls.loadGlobal_builtin (by rw [ok.glob]; exact a) c (by rw [ok.blt]; exact b) d q

theorem starEach_plain {e : Expr} {es : List Expr} (h : notStar e = true) : starEach (e :: es) env = (false, eval e env) :: starEach es env := by
  cases e <;> first | rfl | cases h

/-- several expressions, left to right -/
theorem evList_sound {ev1 : Expr → K → Option PV} (S : SndE prog w h₁ n env ρ ev1) (R : Room n A) : ∀ (es : List Expr) (k : List PV → Option PV) (Q : List Value → Shared → Prop) (s : Shared) (H : PHeap) (pos : Pos),
    evList ev1 es k = some r → es.all notStar = true → Good prog w h₁ env ρ H s →
    (∀ vs ps s' H', After s H s' H' → RepL prog w H' vs ps → ps.length = es.length → k ps = some r → Q vs s') → wpAny (model prog w) A (spliced (backTo pos (starEach es env))) Q E s
  | [], k, Q, s, H, pos, e, _, g, N => Calls.spliced_nil (N [] [] s H (.refl g.base.sub) .nil rfl e)
  | x :: es, k, Q, s, H, pos, e, hs, g, N => by
    rw [List.all_cons] at hs
    obtain ⟨h1, h2⟩ := and_split hs
    rw [starEach_plain h1]
    refine Calls.spliced_cons (S x _ r A E _ s H e R g fun v p s' H' a hv e' => ?_)
    refine evList_sound S R es _ _ s' H' pos e' h2 (g.after a) fun vs ps s'' H'' b hvs hl e'' => ?_
    exact N _ _ _ _ (a.trans b) (.cons (hv.mono b.grow) hvs) (by rw [List.length_cons, List.length_cons, hl]) e''
theorem kws_some (pos : Pos) : ∀ es : List Keyword, es.all kwOk = true → (backToKw pos (keywordEach es env)).all (·.1.isSome) = true
  | [], _ => rfl
  | ⟨some nm, x, p⟩ :: es, h => by
    rw [List.all_cons] at h
    show (true && (backToKw pos (keywordEach es env)).all (·.1.isSome)) = true
    rw [kws_some pos es (and_split h).2]; rfl
  | ⟨none, _, _⟩ :: _, h => by cases h
theorem evKws_sound {ev1 : Expr → K → Option PV} (S : SndE prog w h₁ n env ρ ev1) (R : Room n A) : ∀ (es : List Keyword) (k : List (Str × PV) → Option PV) (Q : List Value → Shared → Prop) (s : Shared) (H : PHeap) (pos : Pos),
    evKws ev1 es k = some r → Good prog w h₁ env ρ H s →
    (∀ vs ps s' H', After s H s' H' → RepK prog w H' (((backToKw pos (keywordEach es env)).filterMap (·.1)).zip vs) ps → k ps = some r → Q vs s') →
    wpAny (model prog w) A (evalAll ((backToKw pos (keywordEach es env)).map (·.2))) Q E s
  | [], k, Q, s, H, pos, e, g, N => wpAny_evalAll_nil (N [] [] s H (.refl g.base.sub) .nil e)
  | ⟨some nm, x, p0⟩ :: es, k, Q, s, H, pos, e, g, N => by
    refine wpAny_evalAll_cons ?_
    refine wpAny_bind (S x _ r A E _ s H e R g fun v p s' H' a hv e' => ?_)
    refine wpAny_bind (wpAny_standAt (wpAny_pure ?_))
    refine evKws_sound S R es _ _ s' H' pos e' (g.after a) fun vs ps s'' H'' b hvs e'' => ?_
    exact N _ _ _ _ (a.trans b) (.cons (hv.mono b.grow) hvs) e''
  | ⟨none, _, _⟩ :: _, k, Q, s, H, pos, e, g, N => by cases e

/-- a call of a value, its arguments read -/
theorem callWith_sound {ev1 : Expr → K → Option PV} (S : SndE prog w h₁ n env ρ ev1) (R : Room n A) {f : Value} {first : List Value} {args : List Expr} {kws : List Keyword} {φ : Fun} {pos : Pos}
    (g : Good prog w h₁ env ρ H s) (hk : ∀ h, Keep s.heap h → KeeperOk h f) (M : Meet prog w h₁ n f first s H φ) (ha : args.all notStar = true) (hkw : kws.all kwOk = true)
    (e : (evList ev1 args fun vs => evKws ev1 kws fun kvs => φ vs kvs k) = some r) (N : Next prog w s H k r Q) :
    wpAny (model prog w) A (callWith pos f first (backTo pos (starEach args env)) (backToKw pos (keywordEach kws env))) Q E s := by
  have plain : ∀ es : List Expr, es.all notStar = true → (backTo pos (starEach es env)).any (·.1) = false := by
    intro es
    induction es with
    | nil => intro _; rfl
    | cons x es ih =>
      intro h
      rw [List.all_cons] at h
      rw [starEach_plain (and_split h).1]
      show (false || (backTo pos (starEach es env)).any (·.1)) = false
      rw [ih (and_split h).2]; rfl
  have plainK : ∀ es : List Keyword, es.all kwOk = true → (backToKw pos (keywordEach es env)).any (·.1.isNone) = false := by
    intro es
    induction es with
    | nil => intro _; rfl
    | cons x es ih =>
      intro h
      rw [List.all_cons] at h
      obtain ⟨nm, y, p⟩ := x
      cases nm with
      | none => cases (and_split h).1
      | some nm =>
        show (false || (backToKw pos (keywordEach es env)).any (·.1.isNone)) = false
        rw [ih (and_split h).2]; rfl
  refine callWith_of (P := Keep s.heap) (by rw [plain args ha, plainK kws hkw]; rfl) (fun h kp => hk h kp _) ?_
  have fin : ∀ vs ps s' H', After s H s' H' → RepL prog w H' vs ps → (evKws ev1 kws fun kvs => φ ps kvs k) = some r →
      wpAny (model prog w) A (evalAll ((backToKw pos (keywordEach kws env)).map (·.2))) (fun ks s₂ => Keep s.heap s₂.heap ∧ wpAny (model prog w) A (call f (first ++ vs) (((backToKw pos (keywordEach kws env)).filterMap (·.1)).zip ks)) Q E s₂) E s' := by
    intro vs ps s' H' a hvs e'
    refine evKws_sound S R kws _ _ s' H' pos e' (g.after a) fun ks kps s'' H'' b hks e'' => ?_
    exact ⟨(a.trans b).keep, M A E Q s'' H'' vs _ ps kps k r R ((g.after a).after b).base (a.trans b) (hvs.mono b.grow) hks e'' (N.shift (a.trans b))⟩
  cases args with
  | nil =>
    refine evalArgs_kw_nil (kws_some pos kws hkw) ?_
    exact fin [] [] s H (.refl g.base.sub) .nil e
  | cons x args =>
    have h1 := (and_split (by rw [List.all_cons] at ha; exact ha)).1
    rw [starEach_plain h1]
    refine evalArgs_kw (kws_some pos kws hkw) ?_
    have := evList_sound (E := E) S R (x :: args) _ _ s H pos e ha g fun vs ps s' H' a hvs _ e' => fin vs ps s' H' a hvs e'
    rw [starEach_plain h1] at this
    exact this
end Mine
end

/-! Eval2 -/
section
open PySem PySem.W PyProof.Rows
set_option maxRecDepth 100000
namespace Mine
variable {prog : Program} {w : World} {h₁ : Heap} {n : Nat} {env : PySem.Env} {ρ : Rd} {A : Around} {E Q : Value → Shared → Prop} {s : Shared} {H : PHeap} {k : K} {r : PV}

theorem wpAny_operate' {vs : List Value} {m : Sem Value} {M : Model} {Q : Value → Shared → Prop} (h : wpAny M A m Q E s) : wpAny M A (operate vs m) Q E s := fun Γ p hΓ => by
  rw [Sem.wp_operate]; exact h Γ p hΓ
theorem wpAny_release' {vs keep : List Value} {M : Model} {Q : Unit → Shared → Prop} (h : Q () s) : wpAny M A (release vs keep) Q E s := fun Γ p hΓ => by
  rw [Sem.wp_release]; exact h

theorem marked_plain : ∀ (ops : List CmpOp) (cs : List Expr) (ts : List (Sem Value)), cs.all notSet = true → markedEach ops cs ts = ts := by
  intro ops
  induction ops with
  | nil => intro cs ts _; cases cs <;> cases ts <;> rfl
  | cons op ops ih =>
    intro cs ts h
    cases cs with
    | nil => cases ops <;> cases ts <;> rfl
    | cons c cs =>
      cases ts with
      | nil => cases ops <;> cases cs <;> rfl
      | cons t ts =>
        rw [List.all_cons] at h
        have one : markedBehindIn op c t = t := markedBehindIn_of_false (by cases c <;> first | rfl | cases (and_split h).1)
        cases ops with
        | nil => cases cs with
          | nil => cases ts with
            | nil => show [markedBehindIn op c t] = [t]; rw [one]
            | cons u us => show t :: markedEach [] [] (u :: us) = _; rw [ih _ _ rfl]
          | cons d ds => show t :: markedEach [] (d :: ds) ts = _; rw [ih _ _ (and_split h).2]
        | cons op2 ops => show t :: markedEach (op2 :: ops) cs ts = _; rw [ih _ _ (and_split h).2]

theorem compare_step {pos : Pos} {v : Value} {op : CmpOp} {ops : List CmpOp} {x : Sem Value} {xs : List (Sem Value)} {M : Model} (hn : ¬ (ops = [] ∧ xs = []))
    (h : wpAny M A x (fun rv s₁ => wpAny M A (compareOp op v rv) (fun c s₂ => wpAny M A (truthy c) (fun b s₃ => if b then wpAny M A (compareChain pos rv ops xs) Q E s₃ else Q c s₃) E s₂) E s₁) E s) :
    wpAny M A (compareChain pos v (op :: ops) (x :: xs)) Q E s := by
  have e : compareChain pos v (op :: ops) (x :: xs) = (do
      let rv ← holding [v] x
      standAt pos
      let c ← holding [v, rv] (compareOp op v rv)
      release [v, rv] [c]
      if ← holding [c, rv] (truthy c) then compareChain pos rv ops xs else pure c) := by
    cases ops with
    | nil => cases xs with
      | nil => exact absurd ⟨rfl, rfl⟩ hn
      | cons y ys => rfl
    | cons o os => cases xs <;> rfl
  rw [e]
  refine wpAny_bind (wpAny_holding (wpAny_mono h (fun rv s₁ h₁ => ?_) fun _ _ y => y))
  refine wpAny_bind (wpAny_standAt (wpAny_bind (wpAny_holding (wpAny_mono h₁ (fun c s₂ h₂ => ?_) fun _ _ y => y))))
  refine wpAny_bind (wpAny_release' (wpAny_bind (wpAny_holding (wpAny_mono h₂ (fun b s₃ h₃ => ?_) fun _ _ y => y))))
  cases b with
  | true => exact h₃
  | false => exact wpAny_pure h₃
theorem test_step {pos : Pos} {v : Value} {op : CmpOp} {ops : List CmpOp} {x : Sem Value} {xs : List (Sem Value)} {M : Model} {Q : Bool → Shared → Prop} (hn : ¬ (ops = [] ∧ xs = []))
    (h : wpAny M A x (fun rv s₁ => wpAny M A (compareOp op v rv) (fun c s₂ => wpAny M A (truthy c) (fun b s₃ => if b then wpAny M A (testChain pos rv ops xs) Q E s₃ else Q false s₃) E s₂) E s₁) E s) :
    wpAny M A (testChain pos v (op :: ops) (x :: xs)) Q E s := by
  have e : testChain pos v (op :: ops) (x :: xs) = (do
      let rv ← holding [v] x
      standAt pos
      let c ← holding [v, rv] (compareOp op v rv)
      release [v, rv] [c]
      if ← holding [c, rv] (truthy c) then testChain pos rv ops xs else pure false) := by
    cases ops with
    | nil => cases xs with
      | nil => exact absurd ⟨rfl, rfl⟩ hn
      | cons y ys => rfl
    | cons o os => cases xs <;> rfl
  rw [e]
  refine wpAny_bind (wpAny_holding (wpAny_mono h (fun rv s₁ h₁ => ?_) fun _ _ y => y))
  refine wpAny_bind (wpAny_standAt (wpAny_bind (wpAny_holding (wpAny_mono h₁ (fun c s₂ h₂ => ?_) fun _ _ y => y))))
  refine wpAny_bind (wpAny_release' (wpAny_bind (wpAny_holding (wpAny_mono h₂ (fun b s₃ h₃ => ?_) fun _ _ y => y))))
  cases b with
  | true => exact h₃
  | false => exact wpAny_pure h₃

theorem chainK_step {ev1 : Expr → K → Option PV} {a : PV} {op : CmpOp} {ops : List CmpOp} {e : Expr} {es : List Expr} {k : Bool → Option PV} (hn : ¬ (ops = [] ∧ es = [])) :
    chainK ev1 a (op :: ops) (e :: es) k = ev1 e fun b => cmpK op a b fun c => bif c then chainK ev1 b ops es k else k false := by
  cases ops with
  | nil => cases es with
    | nil => exact absurd ⟨rfl, rfl⟩ hn
    | cons y ys => rfl
  | cons o os => cases es <;> rfl

theorem chain_sound {ev1 : Expr → K → Option PV} (S : SndE prog w h₁ n env ρ ev1) (R : Room n A) (pos : Pos) : ∀ (ops : List CmpOp) (es : List Expr) (a : PV) (v : Value) (k : Bool → Option PV) (Q : Value → Shared → Prop) (s : Shared) (H : PHeap),
    chainK ev1 a ops es k = some r → Good prog w h₁ env ρ H s → Rep prog w H v a → (∀ b s' H', After s H s' H' → k b = some r → Q (.bool b) s') → wpAny (model prog w) A (compareChain pos v ops (evalEach es env)) Q E s := by
  intro ops
  induction ops with
  | nil => intro es a v k Q s H e; cases es <;> cases e
  | cons op ops ih =>
    intro es a v k Q s H e g hv N
    cases es with
    | nil => cases ops <;> cases e
    | cons x es =>
      by_cases hn : ops = [] ∧ es = []
      · obtain ⟨rfl, rfl⟩ := hn
        show wpAny _ A (do let rv ← holding [v] (eval x env); standAt pos; operate [v, rv] (compareOp op v rv)) Q E s
        refine wpAny_bind (wpAny_holding (S x _ r A E _ s H e R g fun u p s' H' a' hu e' => ?_))
        refine wpAny_bind (wpAny_standAt (wpAny_operate' ?_))
        exact cmpK_sound (n := n) a'.sub (R.less (Nat.le_refl _)) (hv.mono a'.grow) hu e' fun b t eb => N b _ H' (a'.trans (.tok a'.sub)) eb
      · rw [chainK_step hn] at e
        refine compare_step (fun hc => hn ⟨hc.1, by cases es <;> first | rfl | cases hc.2⟩) ?_
        refine S x _ r A E _ s H e R g fun u p s' H' a' hu e' => ?_
        refine cmpK_sound (n := n) a'.sub (R.less (Nat.le_refl _)) (hv.mono a'.grow) hu e' fun b t eb => ?_
        refine wpAny_truthy_bool ?_
        have a2 := a'.trans (After.tok (t := t) a'.sub)
        cases b with
        | true => exact ih es p u k Q _ H' eb (g.after a2) hu fun b' s'' H'' a3 => N b' s'' H'' (a2.trans a3)
        | false => exact N false _ H' a2 eb
theorem test_sound {ev1 : Expr → K → Option PV} (S : SndE prog w h₁ n env ρ ev1) (R : Room n A) (pos : Pos) : ∀ (ops : List CmpOp) (es : List Expr) (a : PV) (v : Value) (k : Bool → Option PV) (Q : Bool → Shared → Prop) (s : Shared) (H : PHeap),
    chainK ev1 a ops es k = some r → Good prog w h₁ env ρ H s → Rep prog w H v a → NextT s H k r Q → wpAny (model prog w) A (testChain pos v ops (evalEach es env)) Q E s := by
  intro ops
  induction ops with
  | nil => intro es a v k Q s H e; cases es <;> cases e
  | cons op ops ih =>
    intro es a v k Q s H e g hv N
    cases es with
    | nil => cases ops <;> cases e
    | cons x es =>
      by_cases hn : ops = [] ∧ es = []
      · obtain ⟨rfl, rfl⟩ := hn
        show wpAny _ A (do let rv ← holding [v] (eval x env); standAt pos; let c ← operate [v, rv] (compareOp op v rv); holding [c] (truthy c)) Q E s
        refine wpAny_bind (wpAny_holding (S x _ r A E _ s H e R g fun u p s' H' a' hu e' => ?_))
        refine wpAny_bind (wpAny_standAt (wpAny_bind (wpAny_operate' ?_)))
        exact cmpK_sound (n := n) a'.sub (R.less (Nat.le_refl _)) (hv.mono a'.grow) hu e' fun b t eb => wpAny_holding (wpAny_truthy_bool (N b _ H' (a'.trans (.tok a'.sub)) eb))
      · rw [chainK_step hn] at e
        refine test_step (fun hc => hn ⟨hc.1, by cases es <;> first | rfl | cases hc.2⟩) ?_
        refine S x _ r A E _ s H e R g fun u p s' H' a' hu e' => ?_
        refine cmpK_sound (n := n) a'.sub (R.less (Nat.le_refl _)) (hv.mono a'.grow) hu e' fun b t eb => ?_
        refine wpAny_truthy_bool ?_
        have a2 := a'.trans (After.tok (t := t) a'.sub)
        cases b with
        | true => exact ih es p u k Q _ H' eb (g.after a2) hu fun b' s'' H'' a3 => N b' s'' H'' (a2.trans a3)
        | false => exact N false _ H' a2 eb

/-- and, or as values -/
theorem boolK_sound {ev1 : Expr → K → Option PV} (S : SndE prog w h₁ n env ρ ev1) (R : Room n A) (pos : Pos) (op : BoolOp) : ∀ (es : List Expr) (k : K) (Q : Value → Shared → Prop) (s : Shared) (H : PHeap),
    boolK ev1 op es k = some r → Good prog w h₁ env ρ H s → Next prog w s H k r Q → wpAny (model prog w) A (boolOp pos op (evalEach es env)) Q E s
  | [], _, _, _, _, e, _, _ => by cases e
  | [x], k, Q, s, H, e, g, N => S x k r A E Q s H e R g N
  | x :: y :: es, k, Q, s, H, e, g, N => by
    show wpAny _ A (do
      let v ← eval x env
      standAt pos
      let t ← holding [v] (truthy v)
      match op, t with
      | .And, false | .Or, true => pure v
      | _, _ => boolOp pos op (evalEach (y :: es) env)) Q E s
    refine wpAny_bind (S x _ r A E _ s H e R g fun v p s' H' a hv e' => ?_)
    refine wpAny_bind (wpAny_standAt (wpAny_bind (wpAny_holding (truK_sound a.sub hv e' fun b t eb => ?_))))
    have a2 := a.trans (After.tok (t := t) a.sub)
    cases op with
    | And => cases b with
      | true => exact boolK_sound S R pos .And (y :: es) k Q _ H' eb (g.after a2) (N.shift a2)
      | false => exact wpAny_pure (N v p _ H' a2 hv eb)
    | Or => cases b with
      | false => exact boolK_sound S R pos .Or (y :: es) k Q _ H' eb (g.after a2) (N.shift a2)
      | true => exact wpAny_pure (N v p _ H' a2 hv eb)
theorem allK_sound {tr1 : Expr → (Bool → Option PV) → Option PV} (S : SndT prog w h₁ n env ρ tr1) (R : Room n A) (op : BoolOp) : ∀ (es : List Expr) (k : Bool → Option PV) (Q : Bool → Shared → Prop) (s : Shared) (H : PHeap),
    allK tr1 op es k = some r → Good prog w h₁ env ρ H s → NextT s H k r Q → wpAny (model prog w) A (allTrue op es env) Q E s
  | [], k, Q, s, H, e, g, N => by
    cases op <;> exact wpAny_pure (N _ s H (.refl g.base.sub) e)
  | x :: es, k, Q, s, H, e, g, N => by
    show wpAny _ A (do
      match op, ← isTrue x env (eval x env) with
      | .And, false => pure false
      | .Or, true => pure true
      | _, _ => allTrue op es env) Q E s
    refine wpAny_bind (S x _ r A E _ s H e R g fun b s' H' a eb => ?_)
    cases op with
    | And => cases b with
      | true => exact allK_sound S R .And es k Q _ H' eb (g.after a) (N.shift a)
      | false => exact wpAny_pure (N _ s' H' a eb)
    | Or => cases b with
      | false => exact allK_sound S R .Or es k Q _ H' eb (g.after a) (N.shift a)
      | true => exact wpAny_pure (N _ s' H' a eb)
end Mine
end

/-! Eval3 -/
section
open PySem PySem.W PyProof.Rows
set_option maxRecDepth 100000
namespace Mine
variable {prog : Program} {w : World} {h₁ : Heap} {n : Nat} {env : PySem.Env} {ρ : Rd} {A : Around} {E Q : Value → Shared → Prop} {s : Shared} {H : PHeap} {k : K} {r : PV}

theorem log2_small {a : Int} (h : a.natAbs < 18446744073709551616) : a.natAbs.log2 < 1920 := by
  by_cases z : a.natAbs = 0
  · rw [z]; decide
  · have : a.natAbs.log2 < 64 := (Nat.log2_lt z).mpr (by simpa using h)
    omega
theorem partK_sound {ev1 : Expr → K → Option PV} (S : SndE prog w h₁ n env ρ ev1) (R : Room n A) (e : Expr) (h : partK ev1 e k = some r) (g : Good prog w h₁ env ρ H s) (N : Next prog w s H k r Q) :
    wpAny (model prog w) A (eval e env) Q E s := by
  unfold partK at h
  split at h
  · rename_i _ _ x _
    refine wpAny_FormattedValue_plain (S x _ r A E _ s H h R g fun v p s' H' a hv h' => ?_)
    cases hv with
    | str x t =>
      obtain ⟨g1, h'⟩ := gate_some h'
      have := lenOk_le g1
      exact wpAny_formatField_str (N _ _ _ _ a (.str x t) h') (N _ _ _ _ (a.trans (.tok a.sub)) (.str x _) h') (by rw [sizeLine_eq]; omega)
    | int i t =>
      obtain ⟨g1, h'⟩ := gate_some h'
      exact wpAny_formatField_int (log2_small (small_lt g1)) (N _ _ _ _ (a.trans (.tok a.sub)) (.str _ _) h')
    | _ => cases h'
  · exact Calls.Constant_str (N _ _ _ _ (.tok g.base.sub) (.str _ _) h)
  · cases h

theorem join_sound {ev1 : Expr → K → Option PV} (S : SndE prog w h₁ n env ρ ev1) (R : Room n A) : ∀ (es : List Expr) (out : Str) (k : K) (Q : Value → Shared → Prop) (s : Shared) (H : PHeap), out.length ≤ 1000000 →
    joinEv ev1 out es k = some r → Good prog w h₁ env ρ H s → Next prog w s H k r Q →
    Joins (model prog w) A E (evalEach es env) out (fun out s₁ => out.length ≤ sizeLine ∧ Q (.str out s₁.toks) { s₁ with toks := s₁.toks + 1 }) s
  | [], out, k, Q, s, H, ho, e, g, N => ⟨by rw [sizeLine_eq]; omega, N _ _ _ _ (.tok g.base.sub) (.str _ _) e⟩
  | x :: es, out, k, Q, s, H, ho, e, g, N => by
    show wpAny _ A (eval x env) _ E s
    refine partK_sound S R x e g fun v p s' H' a hv e' => ?_
    cases hv with
    | str y t =>
      obtain ⟨g1, e'⟩ := gate_some e'
      have hl := lenOk_le g1
      have hl2 : (out ++ y).length ≤ 1000000 := by rw [Str.length_append]; exact hl
      exact ⟨y, t, rfl, by rw [sizeLine_eq]; omega, join_sound S R es (out ++ y) k Q s' H' hl2 e' (g.after a) (N.shift a)⟩
    | _ => cases e'

theorem subscripted_ops (slice : Expr) (o i : Value) : ∃ ops, subscripted slice false o i = operate ops (getItem o i) := by
  unfold subscripted
  split <;> first | exact ⟨_, rfl⟩ | (rename_i h; cases h) | skip
  all_goals exact ⟨_, rfl⟩
def subP : PV → Bool
  | .bytes _ | .lst _ | .tup _ | .dci _ | .dcs _ => true
  | _ => false
/-- the items' lookup, by the value -/
theorem rep_getitem {v : Value} {p : PV} (hs : SubH H s.heap) (hv : Rep prog w H v p) (hp : subP p = true) :
    ∃ T id, s.TypeIs v T ∧ typeLookup (.type T) "__getitem__" = pure (some (.builtin id)) := by
  cases hv with
  | bytes b t => exact ⟨_, _, PySem.W.typeIs_bytes _ _ _, PySem.W.FB.slot_bytes_getitem.lookup⟩
  | lst h1 h2 h3 h4 => exact ⟨_, _, (repL_isList hs h1 h2 h3).typeIs, slot_list_getitem.lookup⟩
  | tup h1 h2 h3 h4 => exact ⟨"tuple", _, ⟨_, hs _ _ h1, h2.1⟩, slot_tuple_getitem.lookup⟩
  | dci h1 h2 h3 h4 => exact ⟨_, _, (h3 _ (hs _ _ h1)).typeIs, slot_dict_getitem.lookup⟩
  | dcs h1 h2 h3 h4 => exact ⟨_, _, (h3 _ (hs _ _ h1)).typeIs, slot_dict_getitem.lookup⟩
  | _ => cases hp
end Mine
end

/-! Frame -/
section
open PySem PySem.W PyProof.Rows
set_option maxRecDepth 100000
namespace Mine
variable {prog : Program} {w : World} {h₁ : Heap} {n : Nat} {env : PySem.Env} {A : Around} {s s' s'' : Shared} {H H' H'' : PHeap} {r : PV}

/-- a step that changes what a block may change (Mu) and nothing else of old -/
structure Mid (Mu : Addr → Prop) (s : Shared) (H : PHeap) (s' : Shared) (H' : PHeap) : Prop where
  same : Same s s'
  keep : ∀ a o, ¬ Mu a → s.heap.get? a = some o → s'.heap.get? a = some o
  sub : SubH H' s'.heap
  grow : Grow H H'
  fresh : ∀ a o, H' a = some o → H a = some o ∨ s.heap.get? a = none
  off : ∀ a, Mu a → H' a = none
  alive : ∀ a, Mu a → ∃ o, s'.heap.get? a = some o
variable {Mu : Addr → Prop}
theorem Mid.refl (hs : SubH H s.heap) (off : ∀ a, Mu a → H a = none) (al : ∀ a, Mu a → ∃ o, s.heap.get? a = some o) : Mid Mu s H s H :=
  ⟨.refl s, fun _ _ _ e => e, hs, fun _ _ e => e, fun _ _ e => .inl e, off, al⟩
theorem Mid.after (m : Mid Mu s H s' H') (a : After s' H' s'' H'') : Mid Mu s H s'' H'' where
  same := m.same.trans a.same
  keep := fun x o hn e => a.keep x o (m.keep x o hn e)
  sub := a.sub
  grow := fun x o e => a.grow x o (m.grow x o e)
  fresh := fun x o e => (a.fresh x o e).elim (m.fresh x o) fun hn => by
    cases q : s.heap.get? x with
    | none => exact .inr rfl
    | some o' =>
      by_cases hm : Mu x
      · obtain ⟨o2, e2⟩ := m.alive x hm
        rw [e2] at hn; cases hn
      · rw [m.keep x o' hm q] at hn; cases hn
  off := fun x hm => by
    cases q : H'' x with
    | none => rfl
    | some o =>
      rcases a.fresh x o q with z | z
      · rw [m.off x hm] at z; cases z
      · obtain ⟨o2, e2⟩ := m.alive x hm
        rw [e2] at z; cases z
  alive := fun x hm => let ⟨o, e⟩ := m.alive x hm; ⟨o, a.keep x o e⟩
/-- the same, what is newly seen forgotten -/
theorem Mid.keeps (m : Mid Mu s H s' H') (sm : Same s' s'') (k : Keep s'.heap s''.heap) : Mid Mu s H s'' H' :=
  m.after ⟨sm, k, m.sub.keep k, fun _ _ e => e, fun _ _ e => .inl e⟩
theorem Mid.mut (m : Mid Mu s H s' H') {a : Addr} {h : Heap} {t : Nat} {o : Obj} (ha : Mu a) (hs : Heap.SameBut a s'.heap h) (ho : h.get? a = some o) : Mid Mu s H { s' with heap := h, toks := t } H' where
  same := m.same.trans (.upd _ _ _)
  keep := fun x o hn e => (hs.2 x (fun q => hn (q ▸ ha))).trans (m.keep x o hn e)
  sub := fun x o e => (hs.2 x (fun q => by rw [q, m.off a ha] at e; cases e)).trans (m.sub x o e)
  grow := m.grow
  fresh := m.fresh
  off := m.off
  alive := fun x hm => by
    by_cases q : x = a
    · exact ⟨o, q ▸ ho⟩
    · obtain ⟨o2, e2⟩ := m.alive x hm
      exact ⟨o2, (hs.2 x q).trans e2⟩
theorem Mid.more (m : Mid Mu s H s' H') {Mu' : Addr → Prop} (h : ∀ a, Mu a → Mu' a) (off : ∀ a, Mu' a → H' a = none) (al : ∀ a, Mu' a → ∃ o, s'.heap.get? a = some o) : Mid Mu' s H s' H' :=
  ⟨m.same, fun a o hn => m.keep a o fun x => hn (h a x), m.sub, m.grow, m.fresh, off, al⟩
theorem Mid.trans (m : Mid Mu s H s' H') {Mu' : Addr → Prop} (x : Mid Mu' s' H' s'' H'') (h : ∀ a, Mu a → Mu' a) : Mid Mu' s H s'' H'' where
  same := m.same.trans x.same
  keep := fun a o q e => x.keep a o q (m.keep a o (fun z => q (h a z)) e)
  sub := x.sub
  grow := fun a o e => x.grow a o (m.grow a o e)
  fresh := fun a o e => (x.fresh a o e).elim (m.fresh a o) fun hq => by
    cases q : s.heap.get? a with
    | none => exact .inr rfl
    | some o' =>
      by_cases hm : Mu a
      · obtain ⟨o2, e2⟩ := m.alive a hm
        rw [e2] at hq; cases hq
      · rw [m.keep a o' hm q] at hq; cases hq
  off := x.off
  alive := x.alive
theorem Mid.finish (m : Mid Mu s H s' H') (f : ∀ a, Mu a → s.heap.get? a = none) : After s H s' H' :=
  ⟨m.same, fun a o e => m.keep a o (fun hm => by rw [f a hm] at e; cases e) e, m.sub, m.grow, m.fresh⟩
/-- an object of the block's own is let be seen -/
theorem After.reveal (m : After s H s' H') {a : Addr} {o : Obj} (hn : s.heap.get? a = none) (e : s'.heap.get? a = some o) (off : H' a = none) : After s H s' (withObj H' a o) where
  same := m.same
  keep := m.keep
  sub := fun b o' q => by
    unfold withObj at q
    by_cases c : b = a
    · rw [if_pos c] at q; cases q; rw [c]; exact e
    · rw [if_neg c] at q; exact m.sub _ _ q
  grow := fun b o' q => by
    unfold withObj
    by_cases c : b = a
    · subst c; rw [m.grow _ _ q] at off; cases off
    · rw [if_neg c]; exact m.grow _ _ q
  fresh := fun b o' q => by
    unfold withObj at q
    by_cases c : b = a
    · rw [c]; exact .inr hn
    · rw [if_neg c] at q; exact m.fresh _ _ q
theorem grow_off {H : PHeap} {a : Addr} (off : H a = none) (o : Obj) : Grow H (withObj H a o) := fun b o' q => by
  unfold withObj
  by_cases c : b = a
  · subst c; rw [q] at off; cases off
  · rw [if_neg c]; exact q

/-! a block's names -/
structure Fm (Mu : Addr → Prop) (sc : Scope) (env : PySem.Env) (h : Heap) : Prop where
  loc : Mu env.locals
  ns : ∃ m, h.Ns env.locals m
  cel : ∀ x, sc.names.lookup x = some .cell → ∃ c v, env.cells.lookup x = some c ∧ Mu c ∧ h.IsCell c v
  apart : ∀ x y c, env.cells.lookup x = some c → env.cells.lookup y = some c → x = y
theorem ns_not_cell {h : Heap} {a : Addr} {m : Str → Option Value} {v : Option Value} (x : h.Ns a m) (y : h.IsCell a v) : False := by
  obtain ⟨o, es, ep, ho, hd, _⟩ := x
  obtain ⟨o', ho', hd'⟩ := y
  rw [ho] at ho'; cases ho'
  rw [hd] at hd'; cases hd'
theorem Fm.keeps {sc : Scope} {h h' : Heap} (f : Fm Mu sc env h) (k : Keep h h') : Fm Mu sc env h' :=
  ⟨f.loc, f.ns.imp fun _ x => x.keeps k, fun x e => let ⟨c, v, a, b, d⟩ := f.cel x e; ⟨c, v, a, b, d.keeps k⟩, f.apart⟩

/-- a name is stored -/
theorem store_sound {sc : Scope} {x : Str} {v : Value} {E : Value → Shared → Prop} {Q : Unit → Shared → Prop} (hk : env.scope.kind = .function) (ko : KindOk sc env) (hx : stOk sc x = true) (f : Fm Mu sc env s.heap)
    (h : ∀ a h' t o, Mu a → Heap.SameBut a s.heap h' → h'.get? a = some o → Fm Mu sc env h' → VarIs env h' x v → (∀ y u, y ≠ x → VarIs env s.heap y u → VarIs env h' y u) →
      (∀ b items, s.heap.IsList b items → b ≠ a) → (∀ b items, s.heap.IsList b items → h'.IsList b items) → Q () { s with heap := h', toks := t }) :
    wpAny (model prog w) A (storeName env x v) Q E s := by
  obtain ⟨hx, hn⟩ := and_split hx
  obtain ⟨hn1, hn2⟩ := and_split hn
  have hno : nameOk x := ⟨by simpa using hn1, by simpa using hn2⟩
  obtain ⟨m, hm⟩ := f.ns
  have lne : ∀ b items, s.heap.IsList b items → b ≠ env.locals := by
    rintro b items ⟨o, ho, _, n, hd⟩ rfl
    obtain ⟨o', es, ep, ho', hd', _⟩ := hm
    rw [ho] at ho'; cases ho'
    rw [hd] at hd'; cases hd'
  split at hx
  · rename_i hl
    have hl' := ko.loc x hl
    refine wpAny_storeName_local hl' hm (fun h' hn' hs' => ?_) (by rw [hk]; rfl)
    obtain ⟨o, es, ep, ho, r⟩ := id hn'
    refine h _ h' _ o f.loc hs' ho ⟨f.loc, ⟨_, hn'⟩, fun y e => ?_, f.apart⟩ ⟨hno, .inl ⟨hl', _, hn', by simp⟩⟩ ?_ lne fun b items hb => hb.extBut hs'.extBut (lne b items hb)
    · obtain ⟨c, v', a, b, d⟩ := f.cel y e
      exact ⟨c, v', a, b, d.sameBut hs' fun q => ns_not_cell hm (q ▸ d)⟩
    · rintro y u hne ⟨ny, hy⟩
      refine ⟨ny, hy.imp ?_ ?_⟩
      · rintro ⟨a, m', b, e⟩
        refine ⟨a, _, hn', ?_⟩
        rw [if_neg hne]
        rw [← e]
        exact hm.agree b y
      · rintro ⟨a, c, b, e⟩
        exact ⟨a, c, b, e.sameBut hs' fun q => ns_not_cell hm (q ▸ e)⟩
  · rename_i hc
    have hc' := ko.cel x hc
    obtain ⟨c, v₀, hcl, hmc, hcell⟩ := f.cel x hc
    have cne : ∀ b items, s.heap.IsList b items → b ≠ c := by
      rintro b items ⟨o, ho, _, n, hd⟩ rfl
      obtain ⟨o', ho', hd'⟩ := hcell
      rw [ho] at ho'; cases ho'
      rw [hd] at hd'; cases hd'
    refine wpAny_storeName_cell hk hc' hcl hcell fun h' hcell' hs' => ?_
    obtain ⟨o, ho, r⟩ := id hcell'
    have hm' : h'.Ns env.locals m := hm.sameBut hs' fun q => ns_not_cell hm (q ▸ hcell)
    refine h _ h' s.toks o hmc hs' ho ⟨f.loc, ⟨_, hm'⟩, fun y e => ?_, f.apart⟩ ⟨hno, .inr ⟨.inl hc', c, hcl, hcell'⟩⟩ ?_ cne fun b items hb => hb.extBut hs'.extBut (cne b items hb)
    · obtain ⟨c2, v', a, b, d⟩ := f.cel y e
      by_cases q : c2 = c
      · exact ⟨c2, some v, a, b, q ▸ hcell'⟩
      · exact ⟨c2, v', a, b, d.sameBut hs' q⟩
    · rintro y u hne ⟨ny, hy⟩
      refine ⟨ny, hy.imp ?_ ?_⟩
      · rintro ⟨a, m', b, e⟩
        exact ⟨a, m', b.sameBut hs' (fun q => ns_not_cell hm (q ▸ hcell)), e⟩
      · rintro ⟨a, c2, b, e⟩
        refine ⟨a, c2, b, e.sameBut hs' fun q => hne ?_⟩
        subst q
        exact f.apart _ _ _ b hcl
  · cases hx
end Mine
end

/-! Block -/
section
open PySem PySem.W PyProof.Rows
set_option maxRecDepth 100000
namespace Mine

theorem lookV_put (σ : Vars) (x y : Str) (b : Bnd) : lookV (putV σ x b) y = if x = y then some b else lookV σ y := by
  induction σ with
  | nil =>
    show (bif decide (x = y) then some b else none) = _
    by_cases h : x = y <;> simp [h, lookV]
  | cons q r ih =>
    obtain ⟨z, c⟩ := q
    unfold putV
    by_cases h : z = x
    · subst h
      simp only [decide_true, cond_true, lookV]
      by_cases q : z = y <;> simp [q]
    · simp only [decide_eq_false h, cond_false, lookV, ih]
      by_cases q : z = y
      · subst q
        have : ¬ x = z := fun e => h e.symm
        simp [this]
      · simp [q]
theorem VarIs.uniq {env : PySem.Env} {h : Heap} {x : Str} {u v : Value} (a : VarIs env h x u) (b : VarIs env h x v) : u = v := by
  obtain ⟨_, a⟩ := a
  obtain ⟨_, b⟩ := b
  rcases a with ⟨a1, m, a2, a3⟩ | ⟨a1, c, a2, a3⟩ <;> rcases b with ⟨b1, m', b2, b3⟩ | ⟨b1, c', b2, b3⟩
  · have := a2.agree b2 x
    rw [a3, b3] at this
    exact Option.some.inj this
  · rw [a1] at b1; rcases b1 with b1 | b1 <;> cases b1
  · rw [b1] at a1; rcases a1 with a1 | a1 <;> cases a1
  · rw [a2] at b2; cases b2
    obtain ⟨o, ho, hd⟩ := a3
    obtain ⟨o', ho', hd'⟩ := b3
    rw [ho] at ho'; cases ho'
    rw [hd] at hd'
    injection hd' with q
    exact Option.some.inj q

section
variable (prog : Program) (w : World) (h₁ : Heap)
structure VOk (Mu : Addr → Prop) (env : PySem.Env) (σ : Vars) (H : PHeap) (h : Heap) : Prop where
  val : ∀ x p, lookV σ x = some (.val p) → ∃ v, VarIs env h x v ∧ Rep prog w H v p
  own : ∀ x l, lookV σ x = some (.own l) → ∃ a vs, VarIs env h x (.ref a) ∧ Mu a ∧ h.PlainList a vs.toArray ∧ RepL prog w H vs l
  apart : ∀ x y l m a, lookV σ x = some (.own l) → lookV σ y = some (.own m) → VarIs env h x (.ref a) → VarIs env h y (.ref a) → x = y
structure Blk (Mu : Addr → Prop) (sc : Scope) (env : PySem.Env) (σ : Vars) (s₀ : Shared) (H₀ : PHeap) (s : Shared) (H : PHeap) : Prop where
  base₀ : Base h₁ H₀ s₀
  mid : Mid Mu s₀ H₀ s H
  fm : Fm Mu sc env s.heap
  vars : VOk prog w Mu env σ H s.heap
end
variable {prog : Program} {w : World} {h₁ : Heap} {n : Nat} {sc : Scope} {env : PySem.Env} {A : Around} {s₀ s s' : Shared} {H₀ H H' : PHeap} {r : PV} {Mu : Addr → Prop} {σ : Vars} {E : Value → Shared → Prop}

theorem Blk.base (b : Blk prog w h₁ Mu sc env σ s₀ H₀ s H) : Base h₁ H s where
  keep := fun a o e => b.mid.keep a o (fun hm => by
    have := b.mid.off a hm
    rw [b.mid.grow _ _ (b.base₀.seen a o e)] at this; cases this) (b.base₀.keep a o e)
  seen := fun a o e => b.mid.grow a o (b.base₀.seen a o e)
  sub := b.mid.sub
theorem Blk.after (b : Blk prog w h₁ Mu sc env σ s₀ H₀ s H) (a : After s H s' H') : Blk prog w h₁ Mu sc env σ s₀ H₀ s' H' where
  base₀ := b.base₀
  mid := b.mid.after a
  fm := b.fm.keeps a.keep
  vars := ⟨fun x p e => let ⟨v, h1, h2⟩ := b.vars.val x p e; ⟨v, h1.keeps a.keep, h2.mono a.grow⟩,
    fun x l e => let ⟨c, vs, h1, h2, h3, h4⟩ := b.vars.own x l e; ⟨c, vs, h1.keeps a.keep, h2, h3.at (a.keep _), h4.mono a.grow⟩,
    fun x y l m c ex ey hx hy => by
      obtain ⟨c1, _, h1, _⟩ := b.vars.own x l ex
      obtain ⟨c2, _, h2, _⟩ := b.vars.own y m ey
      have e1 := (h1.keeps a.keep).uniq hx
      have e2 := (h2.keeps a.keep).uniq hy
      cases e1; cases e2
      exact b.vars.apart x y l m c ex ey h1 h2⟩
/-- what is newly seen is forgotten -/
theorem Blk.forget (b : Blk prog w h₁ Mu sc env σ s₀ H₀ s H) (sm : Same s s') (k : Keep s.heap s'.heap) : Blk prog w h₁ Mu sc env σ s₀ H₀ s' H :=
  b.after ⟨sm, k, b.mid.sub.keep k, fun _ _ e => e, fun _ _ e => .inl e⟩

structure Touch (Mu : Addr → Prop) (s s' : Shared) : Prop where
  keep : ∀ a o, ¬ Mu a → s.heap.get? a = some o → s'.heap.get? a = some o
  live : ∀ a o, s.heap.get? a = some o → ∃ o, s'.heap.get? a = some o
theorem Touch.refl : Touch Mu s s := ⟨fun _ _ _ e => e, fun _ _ e => ⟨_, e⟩⟩
theorem Touch.trans {s'' : Shared} (x : Touch Mu s s') (y : Touch Mu s' s'') : Touch Mu s s'' := ⟨fun a o n e => y.keep a o n (x.keep a o n e), fun a o e => let ⟨o', q⟩ := x.live a o e; y.live a o' q⟩
theorem Touch.same {a : Addr} {h : Heap} {t : Nat} {o : Obj} (ha : Mu a) (hs : Heap.SameBut a s.heap h) (ho : h.get? a = some o) : Touch Mu s { s with heap := h, toks := t } :=
  ⟨fun b o n e => (hs.2 b (fun q => n (q ▸ ha))).trans e, fun b o e => by
    by_cases q : b = a
    · exact ⟨_, q ▸ ho⟩
    · exact ⟨o, (hs.2 b q).trans e⟩⟩

theorem Blk.store_val (hk : env.scope.kind = .function) (ko : KindOk sc env) (b : Blk prog w h₁ Mu sc env σ s₀ H₀ s H) {x : Str} {v : Value} {p : PV} {Q : Unit → Shared → Prop} (hx : stOk sc x = true) (hv : Rep prog w H v p)
    (N : ∀ s', Blk prog w h₁ Mu sc env (putV σ x (.val p)) s₀ H₀ s' H → Touch Mu s s' → Q () s') : wpAny (model prog w) A (storeName env x v) Q E s := by
  refine store_sound hk ko hx b.fm fun a h' t o ha hs ho fm' vx hy li _ => N _ ⟨b.base₀, b.mid.mut ha hs ho, fm', ?_⟩ (.same ha hs ho)
  refine ⟨fun y q e => ?_, fun y l e => ?_, fun y z l m c ey ez hvy hvz => ?_⟩
  · rw [lookV_put] at e
    by_cases c : x = y
    · rw [if_pos c] at e; cases e; subst c; exact ⟨v, vx, hv⟩
    · rw [if_neg c] at e
      obtain ⟨u, h1, h2⟩ := b.vars.val y q e
      exact ⟨u, hy y u (fun q => c q.symm) h1, h2⟩
  · rw [lookV_put] at e
    by_cases c : x = y
    · rw [if_pos c] at e; cases e
    · rw [if_neg c] at e
      obtain ⟨d, vs, h1, h2, h3, h4⟩ := b.vars.own y l e
      exact ⟨d, vs, hy y _ (fun q => c q.symm) h1, h2, h3.at fun o q => (hs.2 d (li d _ h3.isList)).trans q, h4⟩
  · rw [lookV_put] at ey ez
    by_cases c1 : x = y
    · rw [if_pos c1] at ey; cases ey
    · by_cases c2 : x = z
      · rw [if_pos c2] at ez; cases ez
      · rw [if_neg c1] at ey
        rw [if_neg c2] at ez
        obtain ⟨d1, _, h1, _⟩ := b.vars.own y l ey
        obtain ⟨d2, _, h2, _⟩ := b.vars.own z m ez
        have e1 := (hy y _ (fun q => c1 q.symm) h1).uniq hvy
        have e2 := (hy z _ (fun q => c2 q.symm) h2).uniq hvz
        cases e1; cases e2
        exact b.vars.apart y z l m c ey ez h1 h2

def Or1 (Mu : Addr → Prop) (a : Addr) : Addr → Prop := fun b => Mu b ∨ b = a
theorem Blk.store_own (hk : env.scope.kind = .function) (ko : KindOk sc env) (b : Blk prog w h₁ Mu sc env σ s₀ H₀ s H) {x : Str} {a : Addr} {vs : List Value} {l : List PV} {Q : Unit → Shared → Prop} (hx : stOk sc x = true)
    (ha : ¬ Mu a) (hH : H a = none) (hl : s.heap.PlainList a vs.toArray) (hr : RepL prog w H vs l)
    (N : ∀ s', Blk prog w h₁ (Or1 Mu a) sc env (putV σ x (.own l)) s₀ H₀ s' H → Touch Mu s s' → Q () s') : wpAny (model prog w) A (storeName env x (.ref a)) Q E s := by
  refine store_sound hk ko hx b.fm fun a' h' t o ha' hs ho fm' vx hy ne li => N _ ⟨b.base₀, ?_, ?_, ?_⟩ (.same ha' hs ho)
  · refine (b.mid.mut ha' hs ho).more (fun _ h => .inl h) (fun c hc => ?_) fun c hc => ?_
    · rcases hc with hc | rfl
      · exact b.mid.off c hc
      · exact hH
    · rcases hc with hc | rfl
      · exact (b.mid.mut ha' hs ho (t := t)).alive c hc
      · obtain ⟨o2, h2, _⟩ := li _ _ hl.isList
        exact ⟨o2, h2⟩
  · exact ⟨.inl fm'.loc, fm'.ns, fun y e => let ⟨c, v, h1, h2, h3⟩ := fm'.cel y e; ⟨c, v, h1, .inl h2, h3⟩, fm'.apart⟩
  · refine ⟨fun y q e => ?_, fun y l' e => ?_, fun y z l' m c ey ez hvy hvz => ?_⟩
    · rw [lookV_put] at e
      by_cases c : x = y
      · rw [if_pos c] at e; cases e
      · rw [if_neg c] at e
        obtain ⟨u, h1, h2⟩ := b.vars.val y q e
        exact ⟨u, hy y u (fun q => c q.symm) h1, h2⟩
    · rw [lookV_put] at e
      by_cases c : x = y
      · rw [if_pos c] at e; cases e; subst c
        exact ⟨a, vs, vx, .inr rfl, hl.at fun o q => (hs.2 a (ne a _ hl.isList)).trans q, hr⟩
      · rw [if_neg c] at e
        obtain ⟨d, us, h1, h2, h3, h4⟩ := b.vars.own y l' e
        exact ⟨d, us, hy y _ (fun q => c q.symm) h1, .inl h2, h3.at fun o q => (hs.2 d (ne d _ h3.isList)).trans q, h4⟩
    · have old : ∀ y l', ¬ x = y → lookV (putV σ x (.own l)) y = some (.own l') → VarIs env h' y (.ref c) → Mu c ∧ VarIs env s.heap y (.ref c) ∧ lookV σ y = some (.own l') := by
        intro y l' c1 e hv
        rw [lookV_put, if_neg c1] at e
        obtain ⟨d1, _, h1, h2, _⟩ := b.vars.own y l' e
        have e1 := (hy y _ (fun q => c1 q.symm) h1).uniq hv
        cases e1
        exact ⟨h2, h1, e⟩
      by_cases c1 : x = y
      · by_cases c2 : x = z
        · rw [← c1, ← c2]
        · subst c1
          have := vx.uniq hvy
          cases this
          exact absurd (old z m c2 ez hvz).1 ha
      · by_cases c2 : x = z
        · subst c2
          have := vx.uniq hvz
          cases this
          exact absurd (old y l' c1 ey hvy).1 ha
        · obtain ⟨_, k1, k2⟩ := old y l' c1 ey hvy
          obtain ⟨_, k3, k4⟩ := old z m c2 ez hvz
          exact b.vars.apart y z l' m c k2 k4 k1 k3

/-- a list of the block's own is changed in place -/
theorem Blk.change (b : Blk prog w h₁ Mu sc env σ s₀ H₀ s H) {x : Str} {a : Addr} {l l' : List PV} {vs vs' : List Value} {h' : Heap} {t : Nat} (ex : lookV σ x = some (.own l)) (hx : VarIs env s.heap x (.ref a)) (hm : Mu a)
    (hl : s.heap.PlainList a vs.toArray) (hs : Heap.SameBut a s.heap h') (hl' : h'.PlainList a vs'.toArray) (hr : RepL prog w H vs' l') :
    Blk prog w h₁ Mu sc env (putV σ x (.own l')) s₀ H₀ { s with heap := h', toks := t } H := by
  have ns : ∀ c m, s.heap.Ns c m → c ≠ a := by
    rintro c m ⟨o', es, ep, ho', hd', _⟩ rfl
    obtain ⟨o, ho, _, n, hd⟩ := hl.isList
    rw [ho] at ho'; cases ho'
    rw [hd] at hd'; cases hd'
  have ce : ∀ c v, s.heap.IsCell c v → c ≠ a := by
    rintro c v ⟨o', ho', hd'⟩ rfl
    obtain ⟨o, ho, _, n, hd⟩ := hl.isList
    rw [ho] at ho'; cases ho'
    rw [hd] at hd'; cases hd'
  have va : ∀ y v, VarIs env s.heap y v → VarIs env h' y v := fun y v ⟨ny, q⟩ => ⟨ny, q.imp (fun ⟨p, m, k, e⟩ => ⟨p, m, k.sameBut hs (ns _ _ k), e⟩) fun ⟨p, c, k, e⟩ => ⟨p, c, k, e.sameBut hs (ce _ _ e)⟩⟩
  obtain ⟨o', ho', r'⟩ := id hl'.isList
  refine ⟨b.base₀, b.mid.mut hm hs ho', ⟨b.fm.loc, b.fm.ns.imp fun m k => k.sameBut hs (ns _ _ k), fun y e => let ⟨c, v, h1, h2, h3⟩ := b.fm.cel y e; ⟨c, v, h1, h2, h3.sameBut hs (ce _ _ h3)⟩, b.fm.apart⟩, ?_⟩
  have own' : ∀ y m c, lookV (putV σ x (.own l')) y = some (.own m) → VarIs env h' y (.ref c) → ∃ m', lookV σ y = some (.own m') ∧ VarIs env s.heap y (.ref c) := by
    intro y m c e hv
    rw [lookV_put] at e
    by_cases q : x = y
    · subst q
      have := (va _ _ hx).uniq hv
      cases this
      exact ⟨l, ex, hx⟩
    · rw [if_neg q] at e
      obtain ⟨d, us, h1, _⟩ := b.vars.own y m e
      have := (va _ _ h1).uniq hv
      cases this
      exact ⟨m, e, h1⟩
  refine ⟨fun y q e => ?_, fun y m e => ?_, fun y z m m' c ey ez hvy hvz => ?_⟩
  · rw [lookV_put] at e
    by_cases c : x = y
    · rw [if_pos c] at e; cases e
    · rw [if_neg c] at e
      obtain ⟨u, h1, h2⟩ := b.vars.val y q e
      exact ⟨u, va _ _ h1, h2⟩
  · rw [lookV_put] at e
    by_cases c : x = y
    · rw [if_pos c] at e; cases e; subst c
      exact ⟨a, vs', va _ _ hx, hm, hl', hr⟩
    · rw [if_neg c] at e
      obtain ⟨d, us, h1, h2, h3, h4⟩ := b.vars.own y m e
      refine ⟨d, us, va _ _ h1, h2, h3.at fun o q => (hs.2 d fun q => c ?_).trans q, h4⟩
      subst q
      exact b.vars.apart x y l m d ex e hx h1
  · obtain ⟨m1, k1, k2⟩ := own' y m c ey hvy
    obtain ⟨m2, k3, k4⟩ := own' z m' c ez hvz
    exact b.vars.apart y z m1 m2 c k1 k3 k2 k4

/-- several names are stored -/
theorem bind_many (hk : env.scope.kind = .function) (ko : KindOk sc env) : ∀ (ts : List Expr) (xs : List Str) (vs : List Value) (ps : List PV) (σ : Vars) (s : Shared) (σ' : Vars) (Q : Unit → Shared → Prop),
    targets sc ts = some xs → RepL prog w H vs ps → bindBs xs (ps.map .val) σ = some σ' → Blk prog w h₁ Mu sc env σ s₀ H₀ s H → (∀ s', Blk prog w h₁ Mu sc env σ' s₀ H₀ s' H → Touch Mu s s' → Q () s') →
    wpAny (model prog w) A (assignInOrder ((assignEach ts env).map (·.2)) vs) Q E s
  | [], xs, vs, ps, σ, s, σ', Q, ht, hr, hb, b, N => by
    cases ht
    cases hr with
    | nil => cases hb; exact wpAny_pure (N s b .refl)
    | cons _ _ => cases hb
  | t :: ts, xs, vs, ps, σ, s, σ', Q, ht, hr, hb, b, N => by
    cases t with
    | Name x px =>
      unfold targets at ht
      split at ht
      · rename_i l hl
        cases hc : (stOk sc x && !l.any fun y => decide (y = x)) with
        | false => rw [hc] at ht; cases ht
        | true =>
          rw [hc] at ht
          cases ht
          cases hr with
          | nil => cases hb
          | cons hv hr =>
            show wpAny _ A (do holding _ (assign (.Name x px) env _); assignInOrder ((assignEach ts env).map (·.2)) _) Q E s
            refine wpAny_bind (wpAny_holding (wpAny_assign_Name ?_))
            exact b.store_val hk ko (and_split hc).1 hv fun s' b' t => bind_many hk ko ts l _ _ _ s' σ' Q hl hr hb b' fun s'' b'' t' => N s'' b'' (t.trans t')
      · cases ht
    | _ => simp [targets] at ht
theorem targets_len : ∀ (ts : List Expr) (xs : List Str), targets sc ts = some xs → xs.length = ts.length ∧ (assignEach ts env).length = ts.length ∧ (assignEach ts env).findIdx? (·.1) = none
  | [], xs, h => by cases h; exact ⟨rfl, rfl, rfl⟩
  | t :: ts, xs, h => by
    cases t with
    | Name x px =>
      unfold targets at h
      split at h
      · rename_i l hl
        cases hc : (stOk sc x && !l.any fun y => decide (y = x)) with
        | false => rw [hc] at h; cases h
        | true =>
          rw [hc] at h
          cases h
          obtain ⟨a, b, c⟩ := targets_len ts l hl
          refine ⟨by rw [List.length_cons, List.length_cons, a], ?_, ?_⟩
          · show (assignEach ts env).length + 1 = _; rw [b]; rfl
          · show List.findIdx? _ ((false, assign (.Name x px) env) :: assignEach ts env) = none
            rw [List.findIdx?_cons]
            simp [c]
      · cases h
    | _ => simp [targets] at h
theorem bindBs_len : ∀ (xs : List Str) (bs : List Bnd) (σ σ' : Vars), bindBs xs bs σ = some σ' → xs.length = bs.length
  | [], [], _, _, _ => rfl
  | x :: xs, b :: bs, σ, σ', h => by rw [List.length_cons, List.length_cons, bindBs_len xs bs _ _ h]
  | [], _ :: _, _, _, h => by cases h
  | _ :: _, [], _, _, h => by cases h

/-- a tuple is taken apart -/
theorem unpack_sound (hh : A.handled = none) (hk : env.scope.kind = .function) (ko : KindOk sc env) {ts : List Expr} {x1 : Nat} {pos : Pos} {xs : List Str} {v : Value} {ps : List PV} {σ' : Vars} {Q : Unit → Shared → Prop}
    (ht : targets sc ts = some xs) (hv : Rep prog w H v (.tup ps)) (hb : bindBs xs (ps.map .val) σ = some σ') (b : Blk prog w h₁ Mu sc env σ s₀ H₀ s H) (N : ∀ s', Blk prog w h₁ Mu sc env σ' s₀ H₀ s' H → Touch Mu s s' → Q () s') :
    wpAny (model prog w) A (assign (.Tuple ts x1 pos) env v) Q E s := by
  cases hv with
  | tup h1 h2 h3 h4 =>
    obtain ⟨l1, l2, l3⟩ := targets_len (env := env) ts xs ht
    have l4 := bindBs_len _ _ _ _ hb
    have l5 := h4.length
    rw [List.length_map] at l4
    refine wpAny_assign_Tuple hh ⟨_, b.mid.sub _ _ h1, h2.1, _, h3⟩ (by rw [l2, List.size_toArray]; omega) l3 fun h' hx => ?_
    have kp : Keep s.heap h' := fun a o e => hx a o (Nat.ne_of_lt (Heap.lt_size e)) e
    refine bind_many hk ko ts xs _ ps σ _ σ' Q ht h4 hb (b.forget (s' := { s with heap := h' }) (.upd _ _ s.toks) kp) fun s' b' t => N s' b' ⟨fun a o n e => t.keep a o n (kp a o e), fun a o e => t.live a o (kp a o e)⟩
theorem bindT_sound (hh : A.handled = none) (hk : env.scope.kind = .function) (ko : KindOk sc env) {t : Expr} {v : Value} {p : PV} {σ' : Vars} {Q : Unit → Shared → Prop}
    (hv : Rep prog w H v p) (hb : bindT sc t p σ = some σ') (b : Blk prog w h₁ Mu sc env σ s₀ H₀ s H) (N : ∀ s', Blk prog w h₁ Mu sc env σ' s₀ H₀ s' H → Touch Mu s s' → Q () s') :
    wpAny (model prog w) A (assign t env v) Q E s := by
  unfold bindT at hb
  split at hb
  · rename_i _ _ _ x _
    cases hc : stOk sc x with
    | false => rw [hc] at hb; cases hb
    | true =>
      rw [hc] at hb
      cases hb
      exact wpAny_assign_Name (b.store_val hk ko hc hv N)
  · split at hb
    · rename_i xs hx
      exact unpack_sound hh hk ko hx hv hb b N
    · cases hb
  · cases hb
end Mine
end

/-! Iter -/
section
open PySem PySem.W PyProof.Rows
set_option maxRecDepth 100000
namespace Mine
variable {prog : Program} {w : World} {h₁ : Heap} {n : Nat} {sc : Scope} {env : PySem.Env} {A : Around} {s₀ s s' : Shared} {H₀ H H' : PHeap} {r : PV} {Mu : Addr → Prop} {σ : Vars} {E : Value → Shared → Prop}

def quietIter (T : String) : Bool := !["enumerate", "zip", "dict_itemiterator", "dict_reverseitemiterator", "odict_iterator", "itertools.zip_longest", "itertools.pairwise"].contains T

/-- an iterator at hand: its place, what it leans on, what it gives -/
structure Its (prog : Program) (w : World) (A : Around) (H : PHeap) (I : Addr) (fp : List Addr) (xs : List PV) (P : Nat → Value → Prop) (St : Nat → Heap → Prop) : Prop where
  walks : Walks prog w A I fp [I] xs.length P St
  foot : ∀ b ∈ fp, b = I ∨ ∃ o, H b = some o
  gives : ∀ i v, i < xs.length → P i v → ∃ p, xs[i]? = some p ∧ Rep prog w H v p
  quiet : ∀ i h, St i h → ∃ o T vs, h.get? I = some o ∧ o.cls = .type T ∧ o.data = .fields vs ∧ quietIter T = true

theorem letOwned_quiet {I : Addr} {o : Obj} {T : String} {vs : Array Value} {target : Expr} {v : Value} {Q : Unit → Shared → Prop} (ho : s.heap.get? I = some o) (hc : o.cls = .type T) (hd : o.data = .fields vs) (hq : quietIter T = true) (h : Q () s) :
    wpAny (model prog w) A (letOwnedTupleGo target (.ref I) v) Q E s := by
  have go : wpAny (model prog w) A (do
      let (.ref r, .ref a) := ((.ref I : Value), v) | return
      let o ← load r
      match o.cls, o.data with
      | .type n, .fields vs =>
        if ["enumerate", "zip", "dict_itemiterator", "dict_reverseitemiterator", "odict_iterator", "itertools.zip_longest", "itertools.pairwise"].contains n && vs[0]? == some (rawInt a) then
          rule "for.unpacks-the-owned-tuple"
          updateField r 0 .none
      | _, _ => pure ()) Q E s := by
    cases v with
    | ref a =>
      refine wpAny_bind (wpAny_load ho ?_)
      rw [hc, hd]
      unfold quietIter at hq
      have hq' := by simpa using hq
      simp [hq']
      exact wpAny_pure h
    | _ => exact wpAny_pure h
  unfold letOwnedTupleGo
  split
  · exact go
  · exact go
  · exact wpAny_pure h

theorem iter_sound {v : Value} {p : PV} {xs : List PV} {Q : Value → Shared → Prop} (hs : SubH H s.heap) (hh : A.handled = none) (hv : Rep prog w H v p) (e : itemsOf p = some xs) (hl : lenOk xs.length = true)
    (N : ∀ I fp P St h', Keep s.heap h' → s.heap.get? I = none → Its prog w A H I fp xs P St → St 0 h' → I < h'.objs.size → Q (.ref I) { s with heap := h' }) : wpAny (model prog w) A (pyIter v) Q E s := by
  have hlen := lenOk_le hl
  cases hv with
  | @lst a o _vs m ps h1 h2 h3 h4 =>
    cases e
    have hL := repL_isList hs h1 h2 h3
    have hne : ∀ {a o}, H a = some o → a ≠ s.heap.objs.size := fun q => Nat.ne_of_lt (Heap.lt_size (hs _ _ q))
    refine wpAny_pyIter_list hL ?_
    have W := Walks.list (prog := prog) (w := w) hh s.heap.objs.size _ (hne h1) _vs.toArray
    have q : _vs.toArray.size = xs.length := by rw [← h4.length]; simp
    rw [q] at W
    refine N _ _ _ _ _ (.push _ _) (get_size_none _) ⟨W, fun b hb => ?_, fun i v hi hp => ?_, fun i h st => ?_⟩ (And.intro ⟨_, Heap.get?_push_size _ rfl, rfl, rfl⟩ (hL.push _)) (by rw [Heap.size_push]; exact Nat.lt_succ_self _)
    · rcases List.mem_cons.mp hb with rfl | hb
      · exact .inl rfl
      · rw [List.mem_singleton.mp hb]; exact .inr ⟨_, h1⟩
    · have hi' : i < _ := hi
      obtain ⟨p, hp'⟩ : ∃ p, _[i]? = some p := ⟨_, List.getElem?_eq_getElem hi⟩
      obtain ⟨u, hu, hr⟩ := h4.get hp'
      rw [List.getElem?_toArray, hu] at hp
      cases hp
      exact ⟨p, hp', hr⟩
    · obtain ⟨⟨o, a, b, c⟩, _⟩ := st
      exact ⟨o, _, _, a, b, c, by decide⟩
  | @tup a o _vs m ps h1 h2 h3 h4 =>
    cases e
    have hL : s.heap.IsTuple _ _ := ⟨_, hs _ _ h1, h2.1, _, h3⟩
    have hne : ∀ {a o}, H a = some o → a ≠ s.heap.objs.size := fun q => Nat.ne_of_lt (Heap.lt_size (hs _ _ q))
    refine wpAny_pyIter_tuple hL ?_
    have W := Walks.tuple (prog := prog) (w := w) hh s.heap.objs.size _ (hne h1) _vs.toArray
    have q : _vs.toArray.size = xs.length := by rw [← h4.length]; simp
    rw [q] at W
    refine N _ _ _ _ _ (.push _ _) (get_size_none _) ⟨W, fun b hb => ?_, fun i v hi hp => ?_, fun i h st => ?_⟩ (And.intro ⟨_, Heap.get?_push_size _ rfl, rfl, rfl⟩ (hL.push _)) (by rw [Heap.size_push]; exact Nat.lt_succ_self _)
    · rcases List.mem_cons.mp hb with rfl | hb
      · exact .inl rfl
      · rw [List.mem_singleton.mp hb]; exact .inr ⟨_, h1⟩
    · obtain ⟨p, hp'⟩ : ∃ p, _[i]? = some p := ⟨_, List.getElem?_eq_getElem hi⟩
      obtain ⟨u, hu, hr⟩ := h4.get hp'
      rw [List.getElem?_toArray, hu] at hp
      cases hp
      exact ⟨p, hp', hr⟩
    · obtain ⟨⟨o, a, b, c⟩, _⟩ := st
      exact ⟨o, _, _, a, b, c, by decide⟩
  | @rng a o m t u v' h1 h2 =>
    cases e
    rw [List.length_map, List.length_range] at hlen
    have hR := h2 _ (hs _ _ h1)
    have hz : Builtin.Range.rangeSize 0 (m : Int) 1 = (m : Int) := by
      unfold Builtin.Range.rangeSize
      simp
      omega
    refine wpAny_pyIter_range hR ?_ ?_
    · unfold Builtin.Range.small
      rw [hz]
      simp [Builtin.Range.rangeFitsLong]
      omega
    · refine N _ _ _ _ _ (.push _ _) (get_size_none _) ⟨by rw [List.length_map, List.length_range]; exact Walks.range hh s.heap.objs.size 0 1 m, fun b hb => .inl (List.mem_singleton.mp hb), fun i v hi hp => ?_, fun i h st => ?_⟩ ?_ (by rw [Heap.size_push]; exact Nat.lt_succ_self _)
      · obtain ⟨t, rfl⟩ := hp
        rw [List.length_map, List.length_range] at hi
        refine ⟨.int (i : Int), ?_, ?_⟩
        · rw [List.getElem?_map, List.getElem?_range hi]; rfl
        · have q : (0 : Int) + i * 1 = i := by omega
          rw [q]; exact .int _ _
      · exact ⟨_, _, _, st, rfl, rfl, by decide⟩
      · rw [hz]
        show IsRangeIter _ _ _ _ _
        have q : (0 : Int) + ((0 : Nat) : Int) * 1 = 0 := by omega
        have q2 : (m : Int) - ((0 : Nat) : Int) = m := by omega
        rw [q, q2]
        exact Heap.get?_push_size _ rfl
  | _ => cases e
end Mine
end

/-! Comp -/
section
open PySem PySem.W PyProof.Rows
set_option maxRecDepth 100000
namespace Mine
variable {prog : Program} {w : World} {h₁ : Heap} {n : Nat} {sc csc : Scope} {env : PySem.Env} {A : Around} {s₀ s s' : Shared} {H₀ H H' : PHeap} {r : PV} {Mu : Addr → Prop} {σ : Vars} {E : Value → Shared → Prop}

theorem comp_loop {R : Result → Shared → Prop} {elt target iter : Expr} {scope : Scope} {pos : Pos} {it acc : Value} {env : PySem.Env} (I : Nat → Shared → Prop)
    (turn : ∀ n s, I n s → wpAny (model prog w) A (pyNext it) (fun r s₁ => match r with
      | none => R (.ok .next) s₁
      | some v => wpAny (model prog w) A (letOwnedTupleGo target it v) (fun _ s₁ => wpAny (model prog w) A (assign target env v) (fun _ s₂ => wpAny (model prog w) A (eval elt env) (fun x s₃ =>
          wpAny (model prog w) A (call (.builtin "list.append") [acc, x]) (fun _ s₄ => ∃ m, m < n ∧ I m s₄) (notedBy (model prog w) A env fun e s' => R (.error e) s') s₃)
          (notedBy (model prog w) A env fun e s' => R (.error e) s') s₂) (notedBy (model prog w) A env fun e s' => R (.error e) s') s₁) (notedBy (model prog w) A env fun e s' => R (.error e) s') s₁) (notedBy (model prog w) A env fun e s' => R (.error e) s') s)
    (n : Nat) (h : I n s) : codeAny (model prog w) A (.compLoop (.ListComp elt [⟨target, iter, [], 0⟩] scope pos) 0 it acc env) R s := by
  refine codeAny_loop rfl I (fun n s hI => ?_) n h
  show wpAny _ _ ((compTurn (.ListComp elt [⟨target, iter, [], 0⟩] scope pos) 0 it acc env).onRaise (fun x => do noteFrame x env; theTreesLotGoes x)) _ _ s
  refine wpAny_noted ?_
  rw [compTurn_list1]
  refine wpAny_bind (wpAny_standAt (wpAny_bind (wpAny_mono (turn n s hI) (fun r s₁ h₁ => ?_) fun _ _ h' => h')))
  cases r with
  | none => exact wpAny_pure h₁
  | some v =>
    refine wpAny_bind (wpAny_mono h₁ (fun _ s₁ h₁ => ?_) fun _ _ h' => h')
    exact wpAny_bind (wpAny_mono h₁ (fun _ s₂ h₂ => wpAny_bind (wpAny_bind (wpAny_mono h₂ (fun x s₃ h₃ => wpAny_bind (wpAny_mono h₃
      (fun _ s₄ h₄ => wpAny_pure (wpAny_pure ⟨rfl, h₄⟩)) fun _ _ h' => h')) fun _ _ h' => h'))) fun _ _ h' => h')

theorem lookup_mem {α : Type} : ∀ {l : List (Str × α)} {x : Str} {a : α}, l.lookup x = some a → (x, a) ∈ l
  | [], _, _, h => by cases h
  | (y, b) :: l, x, a, h => by
    rw [List.lookup_cons] at h
    cases q : x == y with
    | true =>
      rw [q] at h; cases h
      rw [eq_of_beq q]; exact .head _
    | false => rw [q] at h; exact .tail _ (lookup_mem h)

def closeOf (env : PySem.Env) : List (Str × NameKind) → List (Str × Addr) → List (Str × Addr)
  | [], acc => acc
  | (x, k) :: r, acc => closeOf env r (match k, env.cells.lookup x with
    | .free, some c => (x, c) :: acc
    | _, _ => acc)
theorem closure_go (env : PySem.Env) : ∀ (l : List (Str × NameKind)) (acc : List (Str × Addr)), (∀ x, (x, NameKind.free) ∈ l → ∃ c, env.cells.lookup x = some c) →
    (forIn l acc fun (y : Str × NameKind) cs => if (y.2 == NameKind.free) = true then cellOf env y.1 >>= fun c => pure (ForInStep.yield ((y.1, c) :: cs)) else pure (ForInStep.yield cs) : Sem (List (Str × Addr))) = pure (closeOf env l acc)
  | [], acc, _ => rfl
  | (x, k) :: l, acc, h => by
    rw [List.forIn_cons]
    have ih := fun acc => closure_go env l acc fun y hy => h y (.tail _ hy)
    by_cases q : k = .free
    · subst q
      obtain ⟨c, hc⟩ := h x (.head _)
      simp only [beq_self_eq_true, if_true, closeOf, hc]
      unfold cellOf
      rw [hc]
      simp only [pure_bind]
      exact ih _
    · have e : (k == NameKind.free) = false := by simpa using q
      simp only [e, Bool.false_eq_true, if_false, pure_bind]
      rw [ih]
      have z : closeOf env ((x, k) :: l) acc = closeOf env l acc := by
        cases k <;> first | exact absurd rfl q | (simp only [closeOf])
      rw [z]
theorem closeOf_in (env : PySem.Env) : ∀ (l : List (Str × NameKind)) (acc : List (Str × Addr)), (∀ x c, acc.lookup x = some c → env.cells.lookup x = some c) → ∀ x c, (closeOf env l acc).lookup x = some c → env.cells.lookup x = some c
  | [], acc, h, x, c, e => h x c e
  | (y, k) :: l, acc, h, x, c, e => by
    refine closeOf_in env l _ ?_ x c e
    intro z d q
    split at q
    · rename_i c' hc
      rw [List.lookup_cons] at q
      cases q' : z == y with
      | true => rw [q'] at q; cases q; rw [eq_of_beq q']; exact hc
      | false => rw [q'] at q; exact h z d q
    · exact h z d q
theorem closeOf_has (env : PySem.Env) : ∀ (l : List (Str × NameKind)) (acc : List (Str × Addr)) (x : Str) (c : Addr), env.cells.lookup x = some c → ((x, NameKind.free) ∈ l ∨ (acc.lookup x).isSome = true) → ((closeOf env l acc).lookup x).isSome = true
  | [], acc, x, c, _, h => by
    rcases h with h | h
    · cases h
    · exact h
  | (y, k) :: l, acc, x, c, hc, h => by
    unfold closeOf
    refine closeOf_has env l _ x c hc ?_
    rcases h with h | h
    · cases h with
      | head =>
        right
        rw [hc]
        simp
      | tail _ h => exact .inl h
    · right
      split
      · rw [List.lookup_cons]
        cases q : x == y with
        | true => rfl
        | false => exact h
      · exact h
theorem closure_is (h : ∀ x, (x, NameKind.free) ∈ csc.names → ∃ c, env.cells.lookup x = some c) : closureFor csc env = pure (closeOf env csc.names []) := by
  unfold closureFor
  have := closure_go env csc.names [] h
  first
    | exact this
    | (simp only [bind_pure]; exact this)
    | (simp; exact this)
end Mine
end

/-! Comp2 -/
section
open PySem PySem.W PyProof.Rows
set_option maxRecDepth 100000
namespace Mine
variable {prog : Program} {w : World} {h₁ : Heap} {n : Nat} {sc csc : Scope} {env : PySem.Env} {A : Around} {s₀ s s' : Shared} {H₀ H H' : PHeap} {r : PV} {Mu : Addr → Prop} {σ : Vars} {E : Value → Shared → Prop}

theorem Mid.touch (m : Mid Mu s H s' H') {I : Addr} {h : Heap} {t : Nat} {o : Obj} (ha : Mu I) (hs : ∀ b o, b ≠ I → s'.heap.get? b = some o → h.get? b = some o) (ho : h.get? I = some o) : Mid Mu s H { s' with heap := h, toks := t } H' where
  same := m.same.trans (.upd _ _ _)
  keep := fun x o hn e => hs x o (fun q => hn (q ▸ ha)) (m.keep x o hn e)
  sub := fun x o e => hs x o (fun q => by rw [q, m.off I ha] at e; cases e) (m.sub x o e)
  grow := m.grow
  fresh := m.fresh
  off := m.off
  alive := fun x hm => by
    by_cases q : x = I
    · exact ⟨o, q ▸ ho⟩
    · obtain ⟨o2, e2⟩ := m.alive x hm
      exact ⟨o2, hs x o2 q e2⟩

theorem relabel_keep {env : PySem.Env} {k : NameKind} (hk : k ≠ .free) : ∀ {names : List (Str × NameKind)} {x : Str}, names.lookup x = some k →
    (names.map fun (n, k) => if (k == NameKind.free && env.scope.kind == .function && env.kindOf n == some .cell) then (n, NameKind.cell) else (n, k)).lookup x = some k
  | [], _, h => by simp at h
  | (n, k') :: r, x, h => by
    have ih := @relabel_keep env k hk r x
    show List.lookup x ((if (k' == NameKind.free && env.scope.kind == .function && env.kindOf n == some .cell) = true then (n, NameKind.cell) else (n, k')) :: _) = _
    cases hx : x == n with
    | true =>
      simp only [List.lookup_cons, hx] at h
      cases h
      rw [if_neg (by intro q; simp at q; exact hk q.1.1)]
      simp [List.lookup_cons, hx]
    | false =>
      simp only [List.lookup_cons, hx] at h
      by_cases hc : (k' == NameKind.free && env.scope.kind == .function && env.kindOf n == some .cell) = true
      · rw [if_pos hc]; simp only [List.lookup_cons, hx]; exact ih h
      · rw [if_neg hc]; simp only [List.lookup_cons, hx]; exact ih h
theorem relabel_free {env : PySem.Env} (hf : env.scope.kind = .function) : ∀ {names : List (Str × NameKind)} {x : Str}, env.kindOf x = some .cell → names.lookup x = some .free →
    (names.map fun (n, k) => if (k == NameKind.free && env.scope.kind == .function && env.kindOf n == some .cell) then (n, NameKind.cell) else (n, k)).lookup x = some .cell
  | [], _, _, h => by simp at h
  | (n, k') :: r, x, hc, h => by
    have ih := @relabel_free env hf r x hc
    show List.lookup x ((if (k' == NameKind.free && env.scope.kind == .function && env.kindOf n == some .cell) = true then (n, NameKind.cell) else (n, k')) :: _) = _
    cases hx : x == n with
    | true =>
      simp only [List.lookup_cons, hx] at h
      cases h
      have := eq_of_beq hx
      subst this
      rw [if_pos (by rw [hf, hc]; rfl)]
      simp [List.lookup_cons]
    | false =>
      simp only [List.lookup_cons, hx] at h
      by_cases hc : (k' == NameKind.free && env.scope.kind == .function && env.kindOf n == some .cell) = true
      · rw [if_pos hc]; simp only [List.lookup_cons, hx]; exact ih h
      · rw [if_neg hc]; simp only [List.lookup_cons, hx]; exact ih h

/-- the sides of a comprehension -/
structure Sides (sc csc : Scope) (env : PySem.Env) : Prop where
  kind : csc.kind = .function
  loc : ∀ x ∈ csc.names, x.2 = .local → csc.names.lookup x.1 = some .local
  cel : ∀ x ∈ csc.names, x.2 ≠ .cell
  free : ∀ x, csc.names.lookup x = some .free → env.kindOf x = some .cell ∧ ∃ c, env.cells.lookup x = some c
  frees : ∀ x, (x, NameKind.free) ∈ csc.names → ∃ c, env.cells.lookup x = some c
theorem compOk_sides (ok : EnvOk sc env) (h : compOk sc csc = true) : Sides sc csc env := by
  obtain ⟨hk, hn⟩ := and_split h
  have hn := List.all_eq_true.mp hn
  refine ⟨of_decide_eq_true hk, fun x hx e => ?_, fun x hx e => ?_, fun x e => ?_, fun x e => ?_⟩
  · have := hn x hx
    rw [e] at this
    exact of_decide_eq_true this
  · have := hn x hx
    rw [e] at this
    cases this
  · have := of_decide_eq_true (hn (x, .free) (lookup_mem e))
    exact ⟨ok.cel x this, ok.cells x this⟩
  · have := of_decide_eq_true (hn (x, .free) e)
    exact ok.cells x this
theorem comp_env (ok : EnvOk sc env) (S : Sides sc csc env) (C : Addr) : EnvOk csc (compEnvC csc (closeOf env csc.names []) C env) where
  loc := fun x e => relabel_keep (by decide) e
  inj := fun x y c hx hy => ok.inj x y c (closeOf_in env csc.names [] (by intro x c h; cases h) x c hx) (closeOf_in env csc.names [] (by intro x c h; cases h) y c hy)
  cel := fun x e => absurd rfl (S.cel (x, .cell) (lookup_mem e))
  cells := fun x e => absurd rfl (S.cel (x, .cell) (lookup_mem e))
  kind := S.kind
  glob := ok.glob
  blt := ok.blt
  names := fun x e => relabel_keep (by decide) e
theorem comp_reads (ok : EnvOk sc env) (S : Sides sc csc env) {C : Addr} {h h' : Heap} {σ : Vars} {ρ : Rd} (K : Keep h h') (g : Reads prog w env ρ H h) (gr : Grow H H')
    (vo : ∀ x p, lookV σ x = some (.val p) → ∃ v, VarIs (compEnvC csc (closeOf env csc.names []) C env) h' x v ∧ Rep prog w H' v p) : Reads prog w (compEnvC csc (closeOf env csc.names []) C env) (rdC csc σ ρ) H' h' := by
  intro x p e
  unfold rdC at e
  split at e
  · rename_i q hq
    cases e
    exact vo x p hq
  · cases e
  · split at e
    · rename_i hf
      obtain ⟨v, hv, hr⟩ := g x p e
      obtain ⟨hc, c, hcl⟩ := S.free x hf
      obtain ⟨ny, hv⟩ := hv
      refine ⟨v, ⟨ny, .inr ⟨.inl (relabel_free ok.kind hc hf), ?_⟩⟩, hr.mono gr⟩
      rcases hv with ⟨hl, _⟩ | ⟨_, c', hc', hcv⟩
      · rw [hc] at hl; cases hl
      · refine ⟨c', ?_, hcv.keeps K⟩
        have has := closeOf_has env csc.names [] x c' hc' (.inl (lookup_mem hf))
        show (closeOf env csc.names []).lookup x = some c'
        cases q : (closeOf env csc.names []).lookup x with
        | none => rw [q] at has; cases has
        | some c2 =>
          have := closeOf_in env csc.names [] (by intro x c h; cases h) x c2 q
          rw [hc'] at this
          cases this; rfl
    · cases e

def Mu3 (I D C : Addr) : Addr → Prop := fun a => a = I ∨ a = D ∨ a = C
def MuC (C : Addr) : Addr → Prop := fun a => a = C

/-- the body of a comprehension's turns -/
theorem comp_turns {ev1 : Rd → Expr → K → Option PV} {elt tgt iter : Expr} {pos : Pos} {ρ : Rd} {xs : List PV} {kk : List PV → Option PV} {R : Result → Shared → Prop} {I D C : Addr} {fp : List Addr} {P : Nat → Value → Prop} {St : Nat → Heap → Prop} {s₁ s₃ : Shared} {H₁ : PHeap}
    (ok : EnvOk sc env) (Sd : Sides sc csc env) (Rm : Room n A) (S : ∀ σ, SndE prog w h₁ n (compEnvC csc (closeOf env csc.names []) C env) (rdC csc σ ρ) (ev1 (rdC csc σ ρ)))
    (g : Good prog w h₁ env ρ H₁ s₁) (W : Its prog w A H₁ I fp xs P St) (hl : xs.length ≤ 1000000) (hI : s₁.heap.get? I = none) (hD : s₁.heap.get? D = none) (hC : s₁.heap.get? C = none) (hID : I ≠ D) (hIC : I ≠ C) (hDC : D ≠ C)
    (e : compK (fun x kk => match bindT csc tgt x [] with
          | some σ => ev1 (rdC csc σ ρ) elt kk
          | none => none) xs kk = some r)
    (m₃ : Mid (Mu3 I D C) s₁ H₁ s₃ H₁) (st : St 0 s₃.heap) (hacc : s₃.heap.PlainList D #[]) (hns : ∃ m, s₃.heap.Ns C m)
    (fin : ∀ s' H' vs ps, After s₁ H₁ s' H' → H' D = none → H' C = none → s'.heap.PlainList D vs.toArray → RepL prog w H' vs ps → (∃ m, s'.heap.Ns C m) → kk ps = some r → R (.ok .next) s') :
    codeAny (model prog w) A (.compLoop (.ListComp elt [⟨tgt, iter, [], 0⟩] csc pos) 0 (.ref I) (.ref D) (compEnvC csc (closeOf env csc.names []) C env)) R s₃ := by
  have oldNe : ∀ {a o}, H₁ a = some o → a ≠ I ∧ a ≠ D ∧ a ≠ C := by
    intro a o q
    have z := g.base.sub _ _ q
    refine ⟨fun c => ?_, fun c => ?_, fun c => ?_⟩
    · rw [c, hI] at z; cases z
    · rw [c, hD] at z; cases z
    · rw [c, hC] at z; cases z
  have notMu : ∀ {a o}, s₁.heap.get? a = some o → ¬ Mu3 I D C a := by
    intro a o q hm
    rcases hm with c | c | c
    · rw [c, hI] at q; cases q
    · rw [c, hD] at q; cases q
    · rw [c, hC] at q; cases q
  have hDf : D ∉ fp := fun h => by
    rcases W.foot D h with h | ⟨o, h⟩
    · exact hID h.symm
    · exact (oldNe h).2.1 rfl
  have hCf : C ∉ fp := fun h => by
    rcases W.foot C h with h | ⟨o, h⟩
    · exact hIC h.symm
    · exact (oldNe h).2.2 rfl
  have mI : Mu3 I D C I := .inl rfl
  have mD : Mu3 I D C D := .inr (.inl rfl)
  have mC : Mu3 I D C C := .inr (.inr rfl)
  refine comp_loop (fun k s => ∃ j Hk vs ps, k = xs.length - j ∧ j ≤ xs.length ∧ ps.length = j ∧ Mid (Mu3 I D C) s₁ H₁ s Hk ∧ St j s.heap ∧ s.heap.PlainList D vs.toArray ∧ RepL prog w Hk vs ps ∧ (∃ m, s.heap.Ns C m) ∧
    compK (fun x kk => match bindT csc tgt x [] with
          | some σ => ev1 (rdC csc σ ρ) elt kk
          | none => none) (xs.drop j) (fun ys => kk (ps ++ ys)) = some r) ?_ xs.length ⟨0, H₁, [], [], rfl, Nat.zero_le _, rfl, m₃, st, hacc, .nil, hns, e⟩
  rintro k sk ⟨j, Hk, vs, ps, rfl, hj, hpl, mid, stj, acc, rep, ⟨mm, ns⟩, e⟩
  by_cases hlt : j < xs.length
  · refine W.walks.item j sk _ _ hlt stj fun v h' tk hP st' hk => ?_
    obtain ⟨oI, T, fs, ho, hcls, hdat, hq⟩ := W.quiet _ _ st'
    obtain ⟨p, hp, hrep⟩ := W.gives j v hlt hP
    have hk' : ∀ b o, b ≠ I → sk.heap.get? b = some o → h'.get? b = some o := fun b o hb q => hk b o (fun z => hb (List.mem_singleton.mp z)) q
    have mid' := mid.touch (t := tk) mI hk' ho
    have acc' := acc.at fun o q => hk' D o (fun z => hID z.symm) q
    have ns' := ns.at' fun o q => hk' C o (fun z => hIC z.symm) q
    refine letOwned_quiet ho hcls hdat hq ?_
    have hdrop : xs.drop j = p :: xs.drop (j + 1) := by
      rw [List.drop_eq_getElem_cons hlt]
      rw [List.getElem?_eq_getElem hlt] at hp
      cases hp; rfl
    rw [hdrop] at e
    unfold compK at e
    split at e
    · rename_i σ' hb
      have keep1 : Keep s₁.heap h' := fun a o q => mid'.keep a o (notMu q) q
      have base' : Base h₁ Hk { sk with heap := h', toks := tk } := ⟨g.base.keep.trans keep1, fun x o q => mid.grow x o (g.base.seen x o q), mid'.sub⟩
      have okc := comp_env ok Sd C
      have blk : Blk prog w h₁ (MuC C) csc (compEnvC csc (closeOf env csc.names []) C env) [] { sk with heap := h', toks := tk } Hk { sk with heap := h', toks := tk } Hk := by
        refine ⟨base', .refl mid'.sub (fun a ha => ?_) (fun a ha => ?_), ⟨rfl, ⟨_, ns'⟩, fun x q => absurd rfl (Sd.cel (x, .cell) (lookup_mem q)), ?_⟩, ⟨fun _ _ q => (by cases q), fun _ _ q => (by cases q), fun _ _ _ _ _ q => (by cases q)⟩⟩
        · cases ha; exact mid'.off _ mC
        · cases ha; exact mid'.alive _ mC
        · exact okc.inj
      refine bindT_sound Rm.handled okc.kind okc.toKindOk (hrep.mono mid.grow) hb blk fun s₅ blk₅ _ => ?_
      have hne5 : ∀ a o, a ≠ C → h'.get? a = some o → s₅.heap.get? a = some o := fun a o c q => blk₅.mid.keep a o (fun z => c z) q
      have mid5 : Mid (Mu3 I D C) s₁ H₁ s₅ Hk := mid'.trans (blk₅.mid.more (Mu' := Mu3 I D C) (fun a h => by cases h; exact mC) (fun a h => mid'.off a h) (fun a h => by
        by_cases c : a = C
        · rw [c]; exact blk₅.mid.alive C rfl
        · obtain ⟨o, q⟩ := mid'.alive a h
          exact ⟨o, hne5 a o c q⟩)) fun _ h => h
      have keep5 : Keep s₁.heap s₅.heap := fun a o q => hne5 a o (fun c => by rw [c, hC] at q; cases q) (keep1 a o q)
      have rd : Reads prog w (compEnvC csc (closeOf env csc.names []) C env) (rdC csc σ' ρ) Hk s₅.heap := comp_reads ok Sd keep5 g.reads mid.grow blk₅.vars.val
      refine S σ' elt _ r A _ _ s₅ Hk e Rm ⟨blk₅.base, rd⟩ fun y q s₆ H₆ a hy e' => ?_
      have mid6 := mid5.after a
      have acc6 : s₆.heap.PlainList D vs.toArray := (acc'.at fun o q => hne5 D o hDC q).at fun o q => a.keep _ _ q
      have st6 : St (j + 1) s₆.heap := W.walks.frame _ _ _ st' fun b hb o q => a.keep _ _ (hne5 b o (fun c => hCf (c ▸ hb)) q)
      have hvl : vs.length = ps.length := rep.length
      refine wpAny_list_append_plain (hsz := by simp [sizeLine]; omega) acc6 fun h₇ hl₇ hs₇ => ?_
      obtain ⟨n7, ho7⟩ := id hl₇
      refine ⟨xs.length - (j + 1), by omega, j + 1, H₆, vs ++ [y], ps ++ [q], rfl, hlt, by simp [hpl], mid6.mut (t := s₆.toks) mD hs₇ ho7, W.walks.frame _ _ _ st6 fun b hb o q => hs₇.extBut b o (fun c => hDf (c ▸ hb)) q, by simpa using hl₇, (rep.mono a.grow).append (.cons hy .nil), ?_, ?_⟩
      · obtain ⟨m5, hm5⟩ := blk₅.fm.ns
        exact ⟨m5, (hm5.keeps a.keep).sameBut hs₇ (fun c => hDC c.symm)⟩
      · rw [← e']
        congr 1
        funext ys
        rw [List.append_assoc]; rfl
    · cases e
  · have hje : j = xs.length := by omega
    subst hje
    refine W.walks.done sk _ _ stj fun h' tk hk => ?_
    have hk' : ∀ b o, b ≠ I → sk.heap.get? b = some o → h'.get? b = some o := fun b o hb q => hk b o (fun z => hb (List.mem_singleton.mp z)) q
    rw [List.drop_length] at e
    have e' : kk (ps ++ []) = some r := e
    rw [List.append_nil] at e'
    have hne : ∀ a o, Hk a = some o → a ≠ I := fun a o q c => by
      have := mid.off I mI
      rw [c, this] at q; cases q
    refine fin { sk with heap := h', toks := tk } Hk vs ps ⟨mid.same.trans (.upd _ _ _), fun a o q => hk' a o (fun c => notMu q (c ▸ mI)) (mid.keep a o (notMu q) q), fun a o q => hk' a o (hne a o q) (mid.sub a o q), mid.grow, mid.fresh⟩
      (mid.off D mD) (mid.off C mC) (acc.at fun o q => hk' D o (fun z => hID z.symm) q) rep ⟨_, ns.at' fun o q => hk' C o (fun z => hIC z.symm) q⟩ e'
theorem After.poke (a : After s H s' H') {C : Addr} {h : Heap} {t : Nat} (hC : s.heap.get? C = none) (off : H' C = none) (hs : Heap.SameBut C s'.heap h) : After s H { s' with heap := h, toks := t } H' :=
  ⟨a.same.trans (.upd _ _ _), fun x o q => (hs.2 x (fun c => by rw [c, hC] at q; cases q)).trans (a.keep x o q), fun x o q => (hs.2 x (fun c => by rw [c, off] at q; cases q)).trans (a.sub x o q), a.grow, a.fresh⟩
end Mine
end

/-! Comp3 -/
section
open PySem PySem.W PyProof.Rows
set_option maxRecDepth 100000
namespace Mine
variable {prog : Program} {w : World} {h₁ : Heap} {n : Nat} {sc csc : Scope} {env : PySem.Env} {A : Around} {s₀ s s' : Shared} {H₀ H H' : PHeap} {r : PV} {Mu : Addr → Prop} {σ : Vars} {E : Value → Shared → Prop}

theorem notSet_fold {e : Expr} (h : notSet e = true) : ∀ x, foldedSetIterable e env x = pure x := by
  intro x
  cases e <;> first | rfl | cases h

theorem comp_open {ev0 : Expr → K → Option PV} {ev1 : Rd → Expr → K → Option PV} {elt tgt iter : Expr} {pos : Pos} {ρ : Rd} {kk : List PV → Option PV} {use : Option (Value → Sem Unit)} {Q : Value → Shared → Prop}
    (ok : EnvOk sc env) (Rm : Room n A) (S₀ : SndE prog w h₁ n env ρ ev0) (S : ∀ cenv ρ, EnvOk csc cenv → SndE prog w h₁ n cenv ρ (ev1 ρ)) (g : Good prog w h₁ env ρ H s) (hc : compOk sc csc = true) (hi : notSet iter = true)
    (e : (ev0 iter fun it => match itemsOf it with
      | some xs => gate (lenOk xs.length) (compK (fun x kk => match bindT csc tgt x [] with
          | some σ => ev1 (rdC csc σ ρ) elt kk
          | none => none) xs kk)
      | none => none) = some r)
    (fin : ∀ D C s' H' vs ps, After s H s' H' → s.heap.get? D = none → s.heap.get? C = none → H' D = none → H' C = none → D ≠ C → s'.heap.PlainList D vs.toArray → RepL prog w H' vs ps → (∃ m, s'.heap.Ns C m) → kk ps = some r →
      compPost (model prog w) A E use Q (.ref D) C (.ok .next) s') :
    wpAny (model prog w) A (comprehension (.ListComp elt [⟨tgt, iter, [], 0⟩] csc pos) csc env (firstIterPos [⟨tgt, iter, [], 0⟩] pos) (newList []) false (eval iter env) use) Q E s := by
  have Sd := compOk_sides ok hc
  refine wpAny_comprehension_free rfl (notSet_fold hi) (closure_is Sd.frees) Sd.kind Sd.loc ?_
  refine S₀ iter _ r A E _ s H e Rm g fun xv p s₁ H₁ a hx e' => ?_
  split at e'
  · rename_i xs hxs
    obtain ⟨hl, e'⟩ := gate_some e'
    have g₁ := g.after a
    refine iter_sound g₁.base.sub Rm.handled hx hxs hl fun I fp P St h' kI hI W st hIlt => ?_
    refine wpAny_newObj_type (wpAny_newFunctionEnv Sd.cel (by intro y hy; simp at hy) (fun h₁' hns₁ hsb₁ => ?_) Sd.kind)
    dsimp only at hns₁ hsb₁ ⊢
    generalize hH2 : h'.push { cls := .type "list", dict := none, data := .seq ([] : List Value).toArray } = H2 at hns₁ hsb₁ ⊢
    have hC : H2.objs.size = h'.objs.size + 1 := by rw [← hH2, Heap.size_push]
    have hDC : h'.objs.size ≠ H2.objs.size := by rw [hC]; exact Nat.ne_of_lt (Nat.lt_succ_self _)
    have old : ∀ b o, h'.get? b = some o → h₁'.get? b = some o := fun b o e => hsb₁.extBut b o (by rw [hC]; exact Nat.ne_of_lt (Nat.lt_succ_of_lt (Heap.lt_size e))) (Heap.get?_push_of_some _ (hH2 ▸ Heap.get?_push_of_some _ e))
    have hacc : h₁'.PlainList h'.objs.size #[] := ⟨_, hsb₁.extBut _ _ hDC (Heap.get?_push_of_some _ (hH2 ▸ Heap.get?_push_size _ rfl))⟩
    have fresh : ∀ a, h'.objs.size ≤ a → s₁.heap.get? a = none := fun a ha => by
      cases q : s₁.heap.get? a with
      | none => rfl
      | some o' => exact absurd (Heap.lt_size (kI _ _ q)) (Nat.not_lt.mpr ha)
    have hD := fresh _ (Nat.le_refl h'.objs.size)
    have hCn := fresh H2.objs.size (by rw [hC]; exact Nat.le_succ _)
    have off : ∀ x, s₁.heap.get? x = none → H₁ x = none := fun x h => by
      cases q : H₁ x with
      | none => rfl
      | some o => rw [g₁.base.sub _ _ q] at h; cases h
    have older : ∀ x, s₁.heap.get? x = none → s.heap.get? x = none := fun x h => by
      cases q : s.heap.get? x with
      | none => rfl
      | some o => rw [a.keep _ _ q] at h; cases h
    obtain ⟨oI, T, fs, hoI, _⟩ := W.quiet _ _ st
    have mid : Mid (Mu3 I h'.objs.size H2.objs.size) s₁ H₁ { s₁ with heap := h₁', toks := s₁.toks + ([] : List (Str × Value)).length } H₁ := by
      refine ⟨.upd _ _ _, fun x o _ q => old x o (kI x o q), fun x o q => old x o (kI x o (g₁.base.sub x o q)), fun _ _ q => q, fun _ _ q => .inl q, fun x hx => ?_, fun x hx => ?_⟩
      · rcases hx with c | c | c
        · rw [c]; exact off _ hI
        · rw [c]; exact off _ hD
        · rw [c]; exact off _ hCn
      · rcases hx with c | c | c
        · exact ⟨oI, c ▸ old _ _ hoI⟩
        · obtain ⟨n, q⟩ := hacc; exact ⟨_, c ▸ q⟩
        · obtain ⟨o, _, _, q, _⟩ := hns₁; exact ⟨o, c ▸ q⟩
    have st₁ : St 0 h₁' := W.walks.frame _ _ _ st fun b _ o q => old b o q
    have loop : codeAny (model prog w) A (.compLoop (.ListComp elt [⟨tgt, iter, [], 0⟩] csc pos) 0 (.ref I) (.ref h'.objs.size) (compEnvC csc (closeOf env csc.names []) H2.objs.size env))
        (compPost (model prog w) A E use Q (.ref h'.objs.size) H2.objs.size) { s₁ with heap := h₁', toks := s₁.toks + ([] : List (Str × Value)).length } := by
      refine comp_turns ok Sd Rm (fun σ => S _ _ (comp_env ok Sd _)) g₁ W (lenOk_le hl) hI hD hCn (Nat.ne_of_lt hIlt) (by rw [hC]; exact Nat.ne_of_lt (Nat.lt_succ_of_lt hIlt)) hDC e' mid st₁ hacc ⟨_, hns₁⟩ fun s' H' vs ps a' oD oC hp hr hn e'' => ?_
      exact fin _ _ s' H' vs ps (a.trans a') (older _ hD) (older _ hCn) oD oC hDC hp hr hn e''
    exact codeAny_compStart_list loop (W.walks.self 0 _ _ _ st₁ loop)
  · cases e'

theorem comp_sound {ev0 : Expr → K → Option PV} {ev1 : Rd → Expr → K → Option PV} {elt tgt iter : Expr} {pos : Pos} {ρ : Rd} {k : K} {Q : Value → Shared → Prop}
    (ok : EnvOk sc env) (Rm : Room n A) (S₀ : SndE prog w h₁ n env ρ ev0) (S : ∀ cenv ρ, EnvOk csc cenv → SndE prog w h₁ n cenv ρ (ev1 ρ)) (g : Good prog w h₁ env ρ H s) (hc : compOk sc csc = true) (hi : notSet iter = true)
    (e : (ev0 iter fun it => match itemsOf it with
      | some xs => gate (lenOk xs.length) (compK (fun x kk => match bindT csc tgt x [] with
          | some σ => ev1 (rdC csc σ ρ) elt kk
          | none => none) xs fun ys => k (.lst ys))
      | none => none) = some r) (N : Next prog w s H k r Q) :
    wpAny (model prog w) A (eval (.ListComp elt [⟨tgt, iter, [], 0⟩] csc pos) env) Q E s := by
  rw [eval_ListComp]
  refine comp_open (use := none) (Q := Q) ok Rm S₀ S g hc hi e fun D C s' H' vs ps a hD hC oD oC hDC hp hr ⟨m, hm⟩ e' => ⟨m, hm, fun h' hs => ?_⟩
  obtain ⟨nn, ho⟩ := hp
  have ho' := (hs.2 D hDC).trans ho
  have a' := (a.poke (t := s'.toks) hC oC hs).reveal hD ho' oD
  exact N _ _ _ _ a' (.lst (withObj_self _ _ _) rfl rfl (hr.mono (grow_off oD _))) e'
end Mine
end

/-! Eval4 -/
section
open PySem PySem.W PyProof.Rows
set_option maxRecDepth 100000
namespace Mine
section
variable (prog : Program) (w : World) (h₁ : Heap) (n : Nat)
def EvOk (r : Ev) : Prop := ∀ sc env ρ, EnvOk sc env → SndE prog w h₁ n env ρ (fun e k => r.ev sc e ρ k) ∧ SndT prog w h₁ n env ρ (fun e k => r.tr sc e ρ k)
end
variable {prog : Program} {w : World} {h₁ : Heap} {n : Nat} {sc csc : Scope} {env : PySem.Env} {A : Around} {s s' : Shared} {H H' : PHeap} {r : PV} {E : Value → Shared → Prop} {Q : Value → Shared → Prop} {T : Tbl} {ρ : Rd} {k : K} {ev : Ev}

theorem optEv_sound {ev1 : Expr → K → Option PV} (S : SndE prog w h₁ n env ρ ev1) (R : Room n A) {e : Option Expr} (h : optEv ev1 e k = some r) (g : Good prog w h₁ env ρ H s) (N : Next prog w s H k r Q) : wpAny (model prog w) A (evalPart e env) Q E s := by
  cases e with
  | none => exact wpAny_evalPart_none (N _ _ _ _ (.refl g.base.sub) .none h)
  | some e => exact wpAny_evalPart_some (S e k r A E Q s H h R g N)

theorem sub_sound {ev1 : Expr → K → Option PV} (S : SndE prog w h₁ n env ρ ev1) (R : Room n A) {v sl : Expr} {pos : Pos}
    (h : (ev1 v fun o => match sl with
      | .Slice a b none _ => optEv ev1 a fun a => optEv ev1 b fun b => sliceK o a b k
      | s => ev1 s fun i => itemK o i k) = some r) (g : Good prog w h₁ env ρ H s) (N : Next prog w s H k r Q) : wpAny (model prog w) A (eval (.Subscript v sl pos) env) Q E s := by
  refine Subscript_ (S v _ r A E _ s H h R g fun u p s' H' a hu e' => ?_)
  have g' := g.after a
  have tail : ∀ (i : Value) (s₂ : Shared) (H₂ : PHeap), After s' H' s₂ H₂ → subP p = true → wpAny (model prog w) A (getItem u i) Q E s₂ →
      wpAny (model prog w) A (subscriptTail v sl u i) Q E s₂ := by
    intro i s₂ H₂ b hp hg
    obtain ⟨T, id, hT, hl⟩ := rep_getitem b.sub (hu.mono b.grow) hp
    obtain ⟨ops, ho⟩ := subscripted_ops sl u i
    exact tail_any hT hl hg ho
  split at e'
  · rename_i a' b' px
    refine wpAny_Slice (optEv_sound S R e' g' fun va pa s₂ H₂ b hva e₂ => ?_)
    refine optEv_sound S R e₂ (g'.after b) fun vb pb s₃ H₃ c hvb e₃ => ?_
    refine wpAny_evalPart_none ?_
    have sub : SubH H₃ (s₃.heap.push { cls := .type "slice", data := .fields #[va, vb, .none] }) := c.sub.keep (.push _ _)
    have d : After s₃ H₃ { s₃ with heap := s₃.heap.push { cls := .type "slice", data := .fields #[va, vb, .none] } } H₃ := After.upd (t := s₃.toks) c.sub (.push _ _)
    refine tail _ _ H₃ ((b.trans c).trans d) ?_ ?_
    · unfold sliceK at e₃
      split at e₃
      · split at e₃ <;> first | rfl | cases e₃
      · cases e₃
    · refine sliceK_sound d.sub (hu.mono fun _ _ q => c.grow _ _ (b.grow _ _ q)) (hva.mono c.grow) hvb e₃ ⟨_, Heap.get?_push_size _ rfl, rfl, rfl⟩ fun y q s₄ H₄ f hy e₄ => ?_
      exact N y q s₄ H₄ (((a.trans b).trans (c.trans d)).trans f) hy e₄
  · refine S sl _ r A E _ s' H' e' R g' fun i pi s₂ H₂ b hi e₂ => ?_
    refine tail i s₂ H₂ b ?_ ?_
    · unfold itemK at e₂
      split at e₂ <;> first | rfl | cases e₂
    · exact itemK_sound b.sub (hu.mono b.grow) hi e₂ fun y q s₄ H₄ f hy e₄ => N y q s₄ H₄ ((a.trans b).trans f) hy e₄

theorem base_whole {o : Expr} {name : Str} (h : notSuper o = true) : attributeBase o name env (eval o env) = eval o env := by
  unfold attributeBase
  split
  · rename_i id p pos
    have : id ≠ Str.ofString "super" := of_decide_eq_true h
    have e : (id != ("super" : Str)) = true := by
      simp only [bne_iff_ne, ne_eq]
      exact this
    simp only [e, Bool.true_or, if_true]
    try exact bind_pure _
  · rfl

theorem meth_sound {ev1 : Expr → K → Option PV} (S : SndE prog w h₁ n env ρ ev1) (R : Room n A) (TO : TblOk prog w h₁ n T) {o : Expr} {name : Str} {apos pos : Pos} {args : List Expr} {kws : List Keyword}
    (h0 : notSuper o = true) (h1 : apos.endLine = pos.line) (h2 : args.all notStar = true) (h3 : kws.all kwOk = true) (h4 : args.length + kws.length < 28)
    (h : (ev1 o fun ov => match T.mt name ov with
      | some φ => evList ev1 args fun vs => evKws ev1 kws fun kvs => φ vs kvs k
      | none => none) = some r) (g : Good prog w h₁ env ρ H s) (N : Next prog w s H k r Q) : wpAny (model prog w) A (eval (.Call (.Attribute o name apos) args kws pos) env) Q E s := by
  rw [arm_eval_Call, base_whole h0]
  refine wpAny_bind (S o _ r A E _ s H h R g fun u p s' H' a hu e' => ?_)
  split at e'
  · rename_i φ hφ
    refine wpAny_bind (wpAny_standAt ?_)
    have plain : ∀ es : List Expr, es.all notStar = true → (backTo pos (starEach es env)).all (fun x => !x.1) = true := by
      intro es
      induction es with
      | nil => intro _; rfl
      | cons x es ih =>
        intro h
        rw [List.all_cons] at h
        rw [starEach_plain (and_split h).1]
        show (true && (backTo pos (starEach es env)).all (fun x => !x.1)) = true
        rw [ih (and_split h).2]; rfl
    have hform : methodCallForm (args.length + kws.length) (backTo pos (starEach args env)) (backToKw pos (keywordEach kws env)) = true := by
      unfold methodCallForm
      rw [plain args h2, kws_some pos kws h3]
      simp only [Bool.true_and]
      split <;> exact decide_eq_true (by omega)
    have hpos : methodCallPos true o env apos pos = pure pos := by unfold methodCallPos; simp [h1]
    unfold methodCall
    rw [hform]
    refine wpAny_bind (wpAny_holding (TO.mt name p φ hφ A E _ _ s' H' u R (g.after a).base hu fun f first s₂ H₂ b hk M => ?_))
    refine wpAny_bind (wpAny_of_eq hpos ?_)
    exact callWith_sound S R ((g.after a).after b) hk M h2 h3 e' (N.shift (a.trans b))
  · cases e'
end Mine
end

/-! Eval5 -/
section
open PySem PySem.W PyProof.Rows
set_option maxRecDepth 100000
namespace Mine
variable {prog : Program} {w : World} {h₁ : Heap} {n : Nat} {sc csc : Scope} {env : PySem.Env} {A : Around} {s s' : Shared} {H H' : PHeap} {r : PV} {E : Value → Shared → Prop} {Q : Value → Shared → Prop} {T : Tbl} {ρ : Rd} {k : K} {ev : Ev}

theorem name_sound (TO : TblOk prog w h₁ n T) (ok : EnvOk sc env) {x : Str} {pos : Pos} (h : (match ρ x with
      | some p => k p
      | none => match sc.names.lookup x with
        | some .globalImplicit => match T.gl x with
          | some p => k p
          | none => none
        | _ => none) = some r) (g : Good prog w h₁ env ρ H s) (N : Next prog w s H k r Q) : wpAny (model prog w) A (eval (.Name x pos) env) Q E s := by
  split at h
  · rename_i p hp
    obtain ⟨v, hv, hr⟩ := g.reads x p hp
    exact name_read ok.kind hv (N v p s H (.refl g.base.sub) hr h)
  · split at h
    · rename_i hg
      split at h
      · rename_i p hp
        obtain ⟨nx, v, hv, hr⟩ := TO.gl x p hp
        exact name_glob ok hg nx (hv.keeps g.base.keep) (N v p s H (.refl g.base.sub) (hr.mono g.base.seen) h)
      · cases h
    · cases h

theorem call_sound {ev1 : Expr → K → Option PV} (S : SndE prog w h₁ n env ρ ev1) (R : Room n A) (TO : TblOk prog w h₁ n T) (ok : EnvOk sc env) {f : Str} {p0 pos : Pos} {args : List Expr} {kws : List Keyword}
    (h : (match ρ f, sc.names.lookup f with
      | none, some .globalImplicit => match T.fn f with
        | some φ => gate (args.all notStar && kws.all kwOk) (evList ev1 args fun vs => evKws ev1 kws fun kvs => φ vs kvs k)
        | none => none
      | _, _ => none) = some r) (g : Good prog w h₁ env ρ H s) (N : Next prog w s H k r Q) : wpAny (model prog w) A (eval (.Call (.Name f p0) args kws pos) env) Q E s := by
  split at h
  · rename_i _ hg
    split at h
    · rename_i φ hφ
      obtain ⟨gt, h⟩ := gate_some h
      obtain ⟨ha, hk⟩ := and_split gt
      obtain ⟨nf, v, hv, F⟩ := TO.fn f φ hφ
      refine wpAny_Call_Name_kw (name_glob ok hg nf (hv.keeps g.base.keep) ?_)
      refine callWith_sound S R g (fun h kp => F.1 h (g.base.keep.trans kp)) ?_ ha hk h N
      intro A' E' Q' s₂ H₂ vs ks ps kps k' r' R' b₂ a₂ hvs hks e' N'
      exact F.2 A' E' Q' s₂ H₂ vs ks ps kps k' r' R' b₂ hvs hks e' N'
    · cases h
  · cases h

theorem seq_sound {ev1 : Expr → K → Option PV} (S : SndE prog w h₁ n env ρ ev1) (R : Room n A) {es : List Expr} {pos : Pos} (b : Bool) (h : gate (es.all notStar && lenOk es.length) (evList ev1 es fun vs => k (bif b then .tup vs else .lst vs)) = some r)
    (g : Good prog w h₁ env ρ H s) (N : Next prog w s H k r Q) :
    wpAny (model prog w) A (spliced (backTo pos (starEach es env))) (fun vs s₁ => vs.length ≤ sizeLine ∧ Q (.ref s₁.heap.objs.size) { s₁ with heap := s₁.heap.push { cls := .type (bif b then "tuple" else "list"), data := .seq vs.toArray } }) E s := by
  obtain ⟨gt, h⟩ := gate_some h
  obtain ⟨hs, hl⟩ := and_split gt
  have hl := lenOk_le hl
  refine evList_sound S R es _ _ s H pos h hs g fun vs ps s' H' a hvs hlen e' => ⟨?_, ?_⟩
  · rw [hvs.length, hlen, sizeLine_eq]; omega
  · have nw := After.push (s := s') (H := H') (o := { cls := .type (bif b then "tuple" else "list"), data := .seq vs.toArray }) a.sub rfl
    refine N _ _ _ _ (a.trans nw) ?_ e'
    cases b with
    | true => exact .tup (withObj_self _ _ _) ⟨rfl, rfl⟩ rfl (hvs.mono nw.grow)
    | false => exact .lst (withObj_self _ _ _) rfl rfl (hvs.mono nw.grow)

theorem mul_list1 {l : Addr} {items : Array Value} {kk : Nat} {x : Int} {u : Tok} (hl : s.heap.get? l = some { cls := .type "list", dict := none, data := .seq items kk, slots := #[] })
    (hlo : 0 ≤ x) (hhi : x ≤ 1000) (hsz : items.size * x.toNat ≤ 1000000)
    (h : Q (.ref s.heap.objs.size) { s with heap := s.heap.push { cls := .type "list", data := .seq (List.foldl (fun x1 x2 => x1 ++ x2) #[] (List.replicate (if items.isEmpty = true then 0 else x.toNat) items)) } }) :
    wpAny (model prog w) A (binaryOp .Mult (.ref l) (.int x u)) Q E s :=
  wpAny_binaryOp_repeat_ref (T := "list") (U := "int") (by decide) ⟨_, hl, rfl⟩ (fun s' => typeIs_int s' x u) noFill_list_mul F.fills_int_mul F.slot_int_rmul repeat_list F.slot_int_index.lookup
    (call_meets F.slot_int_rmul (typeIs_int s x u) F.entry_int_rmul (F.args_int_rmul_2 _ _) (int___rmul___int_list x u l items kk)
      ⟨hl, rfl, ⟨_, hl, rfl⟩, call_meets F.slot_list_mul ⟨_, hl, rfl⟩ F.entry_list_mul (F.args_list_mul_2 _ _)
        (AutoListH.list___mul___list_int_3 l items kk x u (by simp [Builtin.List.listFitsIndex]; omega) (by omega) (by simp [Builtin.List.listTooLong, sizeLine]; omega))
        ⟨hl, h⟩⟩)
theorem fold_app (l : List Value) : ∀ (n : Nat) (a : Array Value), (List.foldl (fun x1 x2 => x1 ++ x2) a (List.replicate n l.toArray)).toList = a.toList ++ (List.replicate n l).flatten
  | 0, a => by simp
  | n + 1, a => by
    rw [List.replicate_succ, List.foldl_cons, fold_app l n, List.replicate_succ, List.flatten_cons]
    simp
theorem mul_rep {vs : List Value} {ps : List PV} (h : RepL prog w H vs ps) : ∀ n, RepL prog w H (List.replicate n vs).flatten (listMul ps n)
  | 0 => .nil
  | n + 1 => by rw [List.replicate_succ, List.flatten_cons]; exact h.append (mul_rep h n)
theorem mul_sound {ev1 : Expr → K → Option PV} (S : SndE prog w h₁ n env ρ ev1) (R : Room n A) {es : List Expr} {b : Expr} {lp pos : Pos} (h : gate (es.all notStar && lenOk es.length) (evList ev1 es fun vs => ev1 b fun y => match y with
      | .int n => gate (decide (0 ≤ n) && decide (n ≤ 1000) && lenOk (vs.length * n.toNat)) (k (.lst (listMul vs n.toNat)))
      | _ => none) = some r) (g : Good prog w h₁ env ρ H s) (N : Next prog w s H k r Q) : wpAny (model prog w) A (eval (.BinOp (.List es lp) .Mult b pos) env) Q E s := by
  obtain ⟨gt, h⟩ := gate_some h
  obtain ⟨hs, hl⟩ := and_split gt
  have hl := lenOk_le hl
  refine wpAny_BinOp (wpAny_List_spliced ?_)
  refine evList_sound S R es _ _ s H lp h hs g fun vs ps s' H' a hvs hlen e' => ⟨?_, ?_⟩
  · rw [hvs.length, hlen, sizeLine_eq]; omega
  · have nw := After.push (s := s') (H := H') (o := { cls := .type "list", data := .seq vs.toArray }) a.sub rfl
    refine S b _ r A E _ _ _ e' R ((g.after a).after nw) fun v p s₂ H₂ a₂ hv e₂ => ?_
    split at e₂
    · rename_i m
      cases hv
      obtain ⟨gt, e₂⟩ := gate_some e₂
      obtain ⟨gt, g3⟩ := and_split gt
      obtain ⟨g1, g2⟩ := and_split gt
      have g1 := of_decide_eq_true g1
      have g2 := of_decide_eq_true g2
      have g3 := lenOk_le g3
      have hlv := hvs.length
      refine mul_list1 (a₂.keep _ _ (Heap.get?_push_size _ rfl)) g1 g2 (by simpa [hlv] using g3) ?_
      have nw2 := After.push (s := s₂) (H := H₂) (o := { cls := .type "list", data := .seq (List.foldl (fun x1 x2 => x1 ++ x2) #[] (List.replicate (if vs.toArray.isEmpty = true then 0 else m.toNat) vs.toArray)) }) a₂.sub rfl
      refine N _ _ _ _ ((a.trans nw).trans (a₂.trans nw2)) (.lst (vs := (List.foldl (fun x1 x2 => x1 ++ x2) #[] (List.replicate (if vs.toArray.isEmpty = true then 0 else m.toNat) vs.toArray)).toList) (withObj_self _ _ _) rfl rfl ?_) e₂
      rw [fold_app]
      have hr := (hvs.mono nw.grow).mono (a₂.trans nw2).grow
      by_cases hz : vs.toArray.isEmpty = true
      · have : vs = [] := by simpa using hz
        subst this
        cases hvs
        rw [if_pos hz]
        have e0 : listMul [] m.toNat = [] := by
          generalize m.toNat = q
          induction q with
          | zero => rfl
          | succ q ih => exact ih
        rw [e0]
        exact .nil
      · have e1 : (#[] : Array Value).toList ++ (List.replicate (if vs.toArray.isEmpty = true then 0 else m.toNat) vs).flatten = (List.replicate m.toNat vs).flatten := by rw [if_neg hz]; rfl
        rw [e1]
        exact mul_rep hr m.toNat
    · cases e₂

theorem evStep_ev (TO : TblOk prog w h₁ n T) (I : EvOk prog w h₁ n ev) (ok : EnvOk sc env) : SndE prog w h₁ n env ρ (fun e k => (evStep T ev).ev sc e ρ k) := by
  intro e k r A E Q s H h R g N
  have S := (I sc env ρ ok).1
  have St := (I sc env ρ ok).2
  simp only [evStep] at h
  split at h
  · -- constants
    split at h
    · exact wpAny_Constant_none (N _ _ _ _ (.refl g.base.sub) .none h)
    · exact wpAny_Constant_bool (N _ _ _ _ (.refl g.base.sub) (.bool _) h)
    · exact wpAny_Constant_int (N _ _ _ _ (.tok g.base.sub) (.int _ _) h)
    · exact wpAny_Constant_str (N _ _ _ _ (.tok g.base.sub) (.str _ _) h)
    · exact Constant_bytes (N _ _ _ _ (.tok g.base.sub) (.bytes _ _) h)
    · cases h
  · exact name_sound TO ok h g N
  · exact mul_sound S R h g N
  · rename_i l op b px _
    refine wpAny_BinOp (S l _ r A E _ s H h R g fun u p s' H' a hu e' => ?_)
    refine S b _ r A E _ s' H' e' R (g.after a) fun v q s₂ H₂ a₂ hv e₂ => ?_
    exact binK_sound a₂.sub R.handled (hu.mono a₂.grow) hv e₂ (N.shift (a.trans a₂))
  · rename_i op x px
    refine wpAny_UnaryOp (S x _ r A E _ s H h R g fun u p s' H' a hu e' => ?_)
    split at e'
    · exact not_of (truK_sound a.sub hu e' fun b t eb => N _ _ _ H' (a.trans (.tok a.sub)) (.bool _) eb)
    · split at e'
      · cases hu
        exact neg_int (N _ _ _ H' (a.trans (.tok a.sub)) (.int _ _) e')
      · cases e'
    · cases e'
  · rename_i op vs px
    rw [arm_eval_BoolOp]
    exact boolK_sound S R px op vs k Q s H h g N
  · rename_i t b o px
    refine wpAny_IfExp (St t _ r A E _ s H h R g fun c s' H' a e' => ?_)
    cases c with
    | true => exact S b k r A E Q s' H' e' R (g.after a) (N.shift a)
    | false => exact S o k r A E Q s' H' e' R (g.after a) (N.shift a)
  · rename_i l ops cs px
    obtain ⟨hc, h⟩ := gate_some h
    rw [arm_eval_Compare, marked_plain _ _ _ hc]
    refine wpAny_bind (S l _ r A E _ s H h R g fun u p s' H' a hu e' => ?_)
    exact chain_sound S R px ops cs p u _ Q s' H' e' (g.after a) hu fun b s₂ H₂ a₂ e₂ => N _ _ _ _ (a.trans a₂) (.bool b) e₂
  · rename_i o name apos args kws pos
    obtain ⟨gt, h⟩ := gate_some h
    obtain ⟨gt, g5⟩ := and_split gt
    obtain ⟨gt, g4⟩ := and_split gt
    obtain ⟨gt, g3⟩ := and_split gt
    obtain ⟨g1, g2⟩ := and_split gt
    exact meth_sound S R TO g1 (of_decide_eq_true g2) g3 g4 (of_decide_eq_true g5) h g N
  · exact call_sound S R TO ok h g N
  · exact sub_sound S R h g N
  · exact wpAny_Tuple_spliced (seq_sound S R true h g N)
  · exact wpAny_List_spliced (seq_sound S R false h g N)
  · rename_i elt tgt iter csc px
    obtain ⟨gt, h⟩ := gate_some h
    obtain ⟨g1, g2⟩ := and_split gt
    exact comp_sound (ev1 := fun ρ e k => ev.ev csc e ρ k) ok R S (fun cenv ρ okc => (I csc cenv ρ okc).1) g g2 g1 h N
  · exact wpAny_JoinedStr_one (partK_sound S R _ h g N)
  · exact wpAny_JoinedStr (join_sound S R _ Str.empty k Q s H (Nat.zero_le _) h g N)
  · cases h

theorem evStep_tr (TO : TblOk prog w h₁ n T) (I : EvOk prog w h₁ n ev) (ok : EnvOk sc env) : SndT prog w h₁ n env ρ (fun e k => (evStep T ev).tr sc e ρ k) := by
  intro e k r A E Q s H h R g N
  have S := (I sc env ρ ok).1
  have St := (I sc env ρ ok).2
  simp only [evStep] at h
  split at h
  · rename_i x px
    exact wpAny_isTrue_Not (St x _ r A E _ s H h R g fun b s' H' a e' => N _ _ _ a e')
  · exact wpAny_isTrue_BoolOp (allK_sound St R _ _ k Q s H h g N)
  · rename_i t b o px
    rw [arm_isTrue_IfExp]
    refine wpAny_bind (St t _ r A E _ s H h R g fun c s' H' a e' => ?_)
    cases c with
    | true => exact St b k r A E Q s' H' e' R (g.after a) (N.shift a)
    | false => exact St o k r A E Q s' H' e' R (g.after a) (N.shift a)
  · rename_i l ops cs px
    obtain ⟨hc, h⟩ := gate_some h
    rw [arm_isTrue_Compare, marked_plain _ _ _ hc]
    refine wpAny_bind (S l _ r A E _ s H h R g fun u p s' H' a hu e' => ?_)
    exact test_sound S R px ops cs p u _ Q s' H' e' (g.after a) hu fun b s₂ H₂ a₂ e₂ => N _ _ _ (a.trans a₂) e₂
  · rename_i n1 n2 n3 n4
    have he : isTrue e env (eval e env) = (do let v ← eval e env; standAt e.pos; holding [v] (truthy v)) := by
      cases e with
      | UnaryOp op x px => cases op <;> first | exact absurd rfl (n1 _ _) | rfl
      | BoolOp op vs px => exact absurd rfl (n2 _ _ _)
      | IfExp a b c d => exact absurd rfl (n3 _ _ _ _)
      | Compare a b c d => exact absurd rfl (n4 _ _ _ _)
      | _ => rfl
    refine wpAny_isTrue_value (S e _ r A E _ s H h R g fun u p s' H' a hu e' => ?_) he
    exact truK_sound a.sub hu e' fun b t eb => N b _ H' (a.trans (.tok a.sub)) eb

theorem evN_sound (TO : TblOk prog w h₁ n T) : ∀ m, EvOk prog w h₁ n (evN T m)
  | 0 => fun _ _ _ _ => ⟨fun _ _ _ _ _ _ _ _ h => (by cases h), fun _ _ _ _ _ _ _ _ h => (by cases h)⟩
  | m + 1 => fun _ _ _ ok => ⟨evStep_ev TO (evN_sound TO m) ok, evStep_tr TO (evN_sound TO m) ok⟩
end Mine
end

/-! Stm -/
section
open PySem PySem.W PyProof.Rows
set_option maxRecDepth 100000
namespace Mine
variable {prog : Program} {w : World} {h₁ : Heap} {n : Nat} {sc csc : Scope} {env : PySem.Env} {A : Around} {s₀ s s' s'' : Shared} {H₀ H H' H'' : PHeap} {r : PV} {Mu Mu' Mu'' : Addr → Prop} {σ σ' : Vars} {E : Value → Shared → Prop} {T : Tbl} {ev : Ev}

/-- a step of a block -/
structure Step (Mu : Addr → Prop) (s : Shared) (H : PHeap) (Mu' : Addr → Prop) (s' : Shared) (H' : PHeap) : Prop where
  keep : ∀ a o, ¬ Mu a → s.heap.get? a = some o → s'.heap.get? a = some o
  sub : ∀ a, Mu a → Mu' a
  new : ∀ a, Mu' a → Mu a ∨ s.heap.get? a = none
  grow : Grow H H'
  fresh : ∀ a o, H' a = some o → H a = some o ∨ s.heap.get? a = none
  live : ∀ a o, s.heap.get? a = some o → ∃ o, s'.heap.get? a = some o
theorem Step.refl : Step Mu s H Mu s H := ⟨fun _ _ _ e => e, fun _ h => h, fun _ h => .inl h, fun _ _ e => e, fun _ _ e => .inl e, fun _ _ e => ⟨_, e⟩⟩
theorem Step.trans (x : Step Mu s H Mu' s' H') (y : Step Mu' s' H' Mu'' s'' H'') : Step Mu s H Mu'' s'' H'' where
  keep := fun a o n e => y.keep a o (fun h => by
    rcases x.new a h with h | h
    · exact n h
    · rw [e] at h; cases h) (x.keep a o n e)
  sub := fun a h => y.sub a (x.sub a h)
  new := fun a h => (y.new a h).elim (x.new a) fun q => .inr (by
    cases c : s.heap.get? a with
    | none => rfl
    | some o => obtain ⟨o', e⟩ := x.live a o c; rw [e] at q; cases q)
  grow := fun a o e => y.grow a o (x.grow a o e)
  fresh := fun a o e => (y.fresh a o e).elim (x.fresh a o) fun q => .inr (by
    cases c : s.heap.get? a with
    | none => rfl
    | some o => obtain ⟨o', e⟩ := x.live a o c; rw [e] at q; cases q)
  live := fun a o e => let ⟨o', q⟩ := x.live a o e; y.live a o' q
theorem Step.after (a : After s H s' H') : Step Mu s H Mu s' H' := ⟨fun x o _ e => a.keep x o e, fun _ h => h, fun _ h => .inl h, a.grow, a.fresh, fun _ _ e => ⟨_, a.keep _ _ e⟩⟩
/-- what was newly seen is forgotten -/
theorem Step.keeps (k : Keep s.heap s'.heap) : Step Mu s H Mu s' H := ⟨fun x o _ e => k x o e, fun _ h => h, fun _ h => .inl h, fun _ _ e => e, fun _ _ e => .inl e, fun _ _ e => ⟨_, k _ _ e⟩⟩

section
variable (prog : Program) (w : World) (h₁ : Heap)
structure FB (Mu : Addr → Prop) (sc : Scope) (env : PySem.Env) (σ : Vars) (s₀ : Shared) (H₀ : PHeap) (s : Shared) (H : PHeap) : Prop extends Blk prog w h₁ Mu sc env σ s₀ H₀ s H where
  fresh : ∀ a, Mu a → s₀.heap.get? a = none
end
theorem FB.after (b : FB prog w h₁ Mu sc env σ s₀ H₀ s H) (a : After s H s' H') : FB prog w h₁ Mu sc env σ s₀ H₀ s' H' := ⟨b.toBlk.after a, b.fresh⟩
theorem FB.forget (b : FB prog w h₁ Mu sc env σ s₀ H₀ s H) (sm : Same s s') (k : Keep s.heap s'.heap) : FB prog w h₁ Mu sc env σ s₀ H₀ s' H := ⟨b.toBlk.forget sm k, b.fresh⟩
theorem FB.finish (b : FB prog w h₁ Mu sc env σ s₀ H₀ s H) : After s₀ H₀ s H := b.mid.finish b.fresh
theorem FB.good (b : FB prog w h₁ Mu sc env σ s₀ H₀ s H) : Good prog w h₁ env (rdV σ) H s := ⟨b.base, fun x p e => by
  unfold rdV at e
  split at e
  · rename_i q hq; cases e; exact b.vars.val x _ hq
  · cases e⟩

open Classical in
/-- the block's own objects, seen -/
noncomputable def opened (Mu : Addr → Prop) (s : Shared) (H : PHeap) : PHeap := fun a => if Mu a then s.heap.get? a else H a
theorem opened_grow (b : FB prog w h₁ Mu sc env σ s₀ H₀ s H) : Grow H (opened Mu s H) := fun a o e => by
  unfold opened
  by_cases c : Mu a
  · rw [b.mid.off a c] at e; cases e
  · rw [if_neg c]; exact e
theorem opened_sub (b : FB prog w h₁ Mu sc env σ s₀ H₀ s H) : SubH (opened Mu s H) s.heap := fun a o e => by
  unfold opened at e
  by_cases c : Mu a
  · rw [if_pos c] at e; exact e
  · rw [if_neg c] at e; exact b.mid.sub a o e
theorem FB.opens (b : FB prog w h₁ Mu sc env σ s₀ H₀ s H) : Good prog w h₁ env (rdA σ) (opened Mu s H) s := by
  refine ⟨⟨b.base.keep, fun a o e => opened_grow b a o (b.base.seen a o e), opened_sub b⟩, fun x p e => ?_⟩
  unfold rdA at e
  split at e
  · rename_i q hq; cases e
    obtain ⟨v, h, hr⟩ := b.vars.val x _ hq
    exact ⟨v, h, hr.mono (opened_grow b)⟩
  · rename_i l hq; cases e
    obtain ⟨a, vs, h, hm, hl, hr⟩ := b.vars.own x _ hq
    obtain ⟨o, ho, hc, nn, hd⟩ := hl.isList
    refine ⟨_, h, .lst ?_ hc hd (hr.mono (opened_grow b))⟩
    unfold opened; rw [if_pos hm]; exact ho
  · cases e
theorem FB.opened_after (b : FB prog w h₁ Mu sc env σ s₀ H₀ s H) : After s₀ H₀ s (opened Mu s H) := by
  have f := b.finish
  refine ⟨f.same, f.keep, opened_sub b, fun a o e => opened_grow b a o (f.grow a o e), fun a o e => ?_⟩
  unfold opened at e
  by_cases c : Mu a
  · exact .inr (b.fresh a c)
  · rw [if_neg c] at e; exact f.fresh a o e

/-- something apart from the block changes -/
theorem Blk.other (b : Blk prog w h₁ Mu sc env σ s₀ H₀ s H) {I : Addr} {h' : Heap} {t : Nat} (hm : ¬ Mu I) (h0 : s₀.heap.get? I = none) (hH : H I = none) (hc : ∀ v, ¬ s.heap.IsCell I v)
    (hs : ∀ c o, c ≠ I → s.heap.get? c = some o → h'.get? c = some o) : Blk prog w h₁ Mu sc env σ s₀ H₀ { s with heap := h', toks := t } H := by
  have at' : ∀ c o, Mu c → s.heap.get? c = some o → h'.get? c = some o := fun c o q e => hs c o (fun z => hm (z ▸ q)) e
  have ns : ∀ m, s.heap.Ns env.locals m → h'.Ns env.locals m := fun m k => k.at' fun o e => at' _ o b.fm.loc e
  have ce : ∀ c v, s.heap.IsCell c v → h'.IsCell c v := fun c v k => by
    have ne : c ≠ I := fun z => hc v (z ▸ k)
    obtain ⟨o, ho, hd⟩ := k
    exact ⟨o, hs c o ne ho, hd⟩
  have va : ∀ y v, VarIs env s.heap y v → VarIs env h' y v := fun y v ⟨ny, q⟩ => ⟨ny, q.imp (fun ⟨p, m, k, e⟩ => ⟨p, m, ns m k, e⟩) fun ⟨p, c, k, e⟩ => ⟨p, c, k, ce _ _ e⟩⟩
  refine ⟨b.base₀, ?_, ⟨b.fm.loc, b.fm.ns.imp ns, fun y e => let ⟨c, v, h1, h2, h3⟩ := b.fm.cel y e; ⟨c, v, h1, h2, ce _ _ h3⟩, b.fm.apart⟩, ?_⟩
  · exact ⟨b.mid.same.trans (.upd _ _ _), fun a o q e => hs a o (fun z => by rw [z, h0] at e; cases e) (b.mid.keep a o q e), fun a o e => hs a o (fun z => by rw [z, hH] at e; cases e) (b.mid.sub a o e), b.mid.grow, b.mid.fresh, b.mid.off,
      fun a q => let ⟨o, e⟩ := b.mid.alive a q; ⟨o, at' a o q e⟩⟩
  · refine ⟨fun x p e => let ⟨v, h1, h2⟩ := b.vars.val x p e; ⟨v, va _ _ h1, h2⟩, fun x l e => let ⟨c, vs, h1, h2, h3, h4⟩ := b.vars.own x l e; ⟨c, vs, va _ _ h1, h2, h3.at fun o q => at' c o h2 q, h4⟩, fun x y l m c ex ey hx hy => ?_⟩
    obtain ⟨c1, _, h1, _⟩ := b.vars.own x l ex
    obtain ⟨c2, _, h2, _⟩ := b.vars.own y m ey
    have e1 := (va _ _ h1).uniq hx
    have e2 := (va _ _ h2).uniq hy
    cases e1; cases e2
    exact b.vars.apart x y l m c ex ey h1 h2
/-- names read alike -/
theorem Blk.alike (b : Blk prog w h₁ Mu sc env σ s₀ H₀ s H) (h : ∀ x, lookV σ' x = lookV σ x) : Blk prog w h₁ Mu sc env σ' s₀ H₀ s H :=
  ⟨b.base₀, b.mid, b.fm, ⟨fun x p e => b.vars.val x p (h x ▸ e), fun x l e => b.vars.own x l (h x ▸ e), fun x y l m a e f => b.vars.apart x y l m a (h x ▸ e) (h y ▸ f)⟩⟩

/-! flows -/
inductive FlM : Flow → Fl → Prop
  | next : FlM .next .next
  | brk : FlM .brk .brk
  | cnt : FlM .cont .cnt
section
variable (prog : Program) (w : World) (h₁ : Heap)
structure NextS (sc : Scope) (env : PySem.Env) (s₀ : Shared) (H₀ : PHeap) (Mu : Addr → Prop) (s : Shared) (H : PHeap) (k : KS) (r : PV) (Q : Flow → Shared → Prop) : Prop where
  go : ∀ fl f σ' Mu' s' H', FB prog w h₁ Mu' sc env σ' s₀ H₀ s' H' → Step Mu s H Mu' s' H' → FlM fl f → k f σ' = some r → Q fl s'
  ret : ∀ v p σ' s' H', After s₀ H₀ s' H' → Rep prog w H' v p → k (.ret p) σ' = some r → Q (.ret v) s'
def SndX (n : Nat) (sc : Scope) (env : PySem.Env) (s₀ : Shared) (H₀ : PHeap) (ex : Stmt → Vars → KS → Option PV) : Prop :=
  ∀ (st : Stmt) (σ : Vars) (k : KS) (r : PV) (A : Around) (E : Value → Shared → Prop) (Q : Flow → Shared → Prop) (Mu : Addr → Prop) (s : Shared) (H : PHeap), ex st σ k = some r → Room n A → FB prog w h₁ Mu sc env σ s₀ H₀ s H →
    NextS prog w h₁ sc env s₀ H₀ Mu s H k r Q → wpAny (model prog w) A (exec st env) Q E s
def SndXA (A : Around) (n : Nat) (sc : Scope) (env : PySem.Env) (s₀ : Shared) (H₀ : PHeap) (ex : Stmt → Vars → KS → Option PV) : Prop :=
  ∀ (st : Stmt) (σ : Vars) (k : KS) (r : PV) (E : Value → Shared → Prop) (Q : Flow → Shared → Prop) (Mu : Addr → Prop) (s : Shared) (H : PHeap), ex st σ k = some r → Room n A → FB prog w h₁ Mu sc env σ s₀ H₀ s H →
    NextS prog w h₁ sc env s₀ H₀ Mu s H k r Q → wpAny (model prog w) A (exec st env) Q E s
end
theorem NextS.shift {k : KS} {Q : Flow → Shared → Prop} (N : NextS prog w h₁ sc env s₀ H₀ Mu s H k r Q) (x : Step Mu s H Mu' s' H') : NextS prog w h₁ sc env s₀ H₀ Mu' s' H' k r Q :=
  ⟨fun fl f σ' Mu'' s'' H'' b y m e => N.go fl f σ' Mu'' s'' H'' b (x.trans y) m e, N.ret⟩

theorem SndX.at {ex : Stmt → Vars → KS → Option PV} (S : SndX prog w h₁ n sc env s₀ H₀ ex) : SndXA prog w h₁ A n sc env s₀ H₀ ex := fun st σ k r E Q Mu s H => S st σ k r A E Q Mu s H
theorem exList_soundA {ex : Stmt → Vars → KS → Option PV} (S : SndXA prog w h₁ A n sc env s₀ H₀ ex) (R : Room n A) : ∀ (ss : List Stmt) (σ : Vars) (k : KS) (Q : Flow → Shared → Prop) (Mu : Addr → Prop) (s : Shared) (H : PHeap),
    exList ex ss σ k = some r → FB prog w h₁ Mu sc env σ s₀ H₀ s H → NextS prog w h₁ sc env s₀ H₀ Mu s H k r Q → wpAny (model prog w) A (execs ss env) Q E s
  | [], σ, k, Q, Mu, s, H, e, b, N => wpAny_execs_nil (N.go _ _ σ Mu s H b .refl .next e)
  | st :: ss, σ, k, Q, Mu, s, H, e, b, N => by
    refine wpAny_execs_cons (S st σ _ r E _ Mu s H e R b ⟨fun fl f σ' Mu' s' H' b' x m e' => ?_, fun v p σ' s' H' a hv e' => N.ret v p σ' s' H' a hv e'⟩)
    cases m with
    | next => exact exList_soundA S R ss σ' k Q Mu' s' H' e' b' (N.shift x)
    | brk => exact N.go _ _ σ' Mu' s' H' b' x .brk e'
    | cnt => exact N.go _ _ σ' Mu' s' H' b' x .cnt e'
theorem exList_sound {ex : Stmt → Vars → KS → Option PV} (S : SndX prog w h₁ n sc env s₀ H₀ ex) (R : Room n A) : ∀ (ss : List Stmt) (σ : Vars) (k : KS) (Q : Flow → Shared → Prop) (Mu : Addr → Prop) (s : Shared) (H : PHeap),
    exList ex ss σ k = some r → FB prog w h₁ Mu sc env σ s₀ H₀ s H → NextS prog w h₁ sc env s₀ H₀ Mu s H k r Q → wpAny (model prog w) A (execs ss env) Q E s :=
  exList_soundA (SndX.at S) R
end Mine
end

/-! Stm2 -/
section
open PySem PySem.W PyProof.Rows
set_option maxRecDepth 100000
namespace Mine
variable {prog : Program} {w : World} {h₁ : Heap} {n : Nat} {sc csc : Scope} {env : PySem.Env} {A : Around} {s₀ s s' s'' : Shared} {H₀ H H' H'' : PHeap} {r : PV} {Mu Mu' Mu'' : Addr → Prop} {σ σ' : Vars} {E : Value → Shared → Prop} {T : Tbl} {ev : Ev}

theorem load_read {x : Str} {v : Value} {Q : Value → Shared → Prop} (hk : env.scope.kind = .function) (h : VarIs env s.heap x v) (q : Q v s) : wpAny (model prog w) A (loadName env x) Q E s := by
  obtain ⟨⟨hd, hc⟩, h⟩ := h
  rcases h with ⟨hl, m, hn, hm⟩ | ⟨hl | hl, c, hcl, hcv⟩
  · exact wpAny_loadName_local hk hl hn hm q
  · exact wpAny_loadName_cell hk hl hcl hcv q
  · exact wpAny_loadName_free hk hl hcl hcv q hc

theorem Step.touch (t : Touch Mu s s') : Step Mu s H Mu s' H := ⟨t.keep, fun _ h => h, fun _ h => .inl h, fun _ _ e => e, fun _ _ e => .inl e, t.live⟩
theorem Step.own {a : Addr} (t : Touch Mu s s') (n : s.heap.get? a = none) : Step Mu s H (Or1 Mu a) s' H :=
  ⟨t.keep, fun _ h => .inl h, fun b h => h.elim .inl fun q => .inr (q ▸ n), fun _ _ e => e, fun _ _ e => .inl e, t.live⟩

theorem setItem_last {l : Addr} {items : Array Value} {t : Tok} {v : Value} {Q : Unit → Shared → Prop} (hl : s.heap.PlainList l items) (h1 : 0 < items.size) (hfit : items.size ≤ 1000000)
    (hQ : ∀ h', h'.PlainList l (items.setIfInBounds (items.size - 1) v) → Heap.SameBut l s.heap h' → Q () { s with heap := h' }) :
    wpAny (model prog w) A (setItem (.ref l) (.int (-1) t) v) Q E s := by
  obtain ⟨ne, ho⟩ := id hl
  have hT := hl.isList.typeIs
  unfold setItem
  try with_reducible refine wpAny_holding ?_
  first | refine wpAny_bind (wpAny_pure ?_) | skip
  refine wpAny_bind (wpAny_sequenceKey hT (by decide) ?_)
  refine wpAny_bind (wpAny_callSpecial?_slot (name := Str.ofString "__setitem__") hT slot_list_setitem
    (wpAny_call_entry slot_list_setitem hT entry_list_setitem ?_ (args_list_setitem _ _ _)))
  show wpAny _ _ (Builtin.List.listSubscript? (.int (-1) t) >>= _) _ _ s
  refine wpAny_bind (wpAny_listSubscript_int (fitsIndex_neg (by decide) (by decide)) ?_)
  have hidx := seqIndex_neg (k := -1) (n := items.size) (by decide) (by omega)
  have hj : items.size - 1 < items.size := by omega
  show wpAny _ _ ((Builtin.List.listItems (.ref l) >>= fun xs => pure ((seqIndex? (Int.negSucc 0) xs.size).bind fun i => xs[i]?.map (i, ·))) >>= _) _ _ s
  refine wpAny_bind (wpAny_bind ?_)
  show wpAny _ _ (seqItems? (.ref l) >>= _) _ _ s
  refine wpAny_bind (wpAny_seqItems ho rfl (wpAny_pure (wpAny_pure ?_)))
  have hi : (-1 + (items.size : Int)).toNat = items.size - 1 := by omega
  have hidx' : seqIndex? (Int.negSucc 0) items.size = some (items.size - 1) := by rw [← hi]; exact hidx
  rw [hidx']
  simp only [Option.bind_some, Array.getElem?_eq_getElem hj, Option.map_some]
  show wpAny _ _ (setSeqItemAt l (items.size - 1) v >>= _) _ _ s
  have hfin : (s.heap.update l (Obj.mapSeq (·.setIfInBounds (items.size - 1) v))).PlainList l (items.setIfInBounds (items.size - 1) v) := by
    have e : ∃ k, Obj.mapSeq (·.setIfInBounds (items.size - 1) v) { cls := .type "list", data := .seq items ne } = { cls := .type "list", data := .seq (items.setIfInBounds (items.size - 1) v) k } := ⟨_, rfl⟩
    obtain ⟨k, e⟩ := e
    exact ⟨k, by rw [Heap.get?_update_self _ ho (by rw [e]; rfl), e]⟩
  refine wpAny_bind (wpAny_setSeqItemAt ho rfl ?_)
  first
    | exact wpAny_bind (wpAny_pure (wpAny_pure ⟨.none, rfl, wpAny_pure (hQ _ hfin (Heap.SameBut.update ..))⟩))
    | exact wpAny_pure ⟨.none, rfl, wpAny_pure (hQ _ hfin (Heap.SameBut.update ..))⟩

theorem swap2 {x y : Str} {px py tp : Pos} {c1 c2 : Nat} {e1 e2 : Expr} {vp : Pos} (hxy : x ≠ y) (h1 : notStar e1 = true) (h2 : notStar e2 = true) (hc : (constantsAlone 8 e1 && constantsAlone 8 e2) = false) :
    swappedStores [.Tuple [.Name x px, .Name y py] c1 tp] (.Tuple [e1, e2] c2 vp) env = pure none ∨ swappedStores [.Tuple [.Name x px, .Name y py] c1 tp] (.Tuple [e1, e2] c2 vp) env = pure (some [x, y]) := by
  have st : ∀ e : Expr, notStar e = true → (match e with | .Starred .. => true | _ => false) = false := by intro e h; cases e <;> first | rfl | cases h
  unfold swappedStores
  simp only [List.length_cons, List.length_nil, List.any_cons, List.any_nil, List.all_cons, List.all_nil, Bool.and_true, Bool.or_false, hc]
  generalize hN : List.filterMap _ [Expr.Name x px, Expr.Name y py] = N
  have hN' : N = [x, y] ∨ N.length ≠ 2 := by
    rw [← hN]
    simp only [List.filterMap_cons, List.filterMap_nil]
    cases (env.kindOf x == some NameKind.local && px.line == (Option.map (fun x => x.pos.line) [Expr.Name x px, Expr.Name y py].head?).getD 0) <;>
      cases (env.kindOf y == some NameKind.local && py.line == (Option.map (fun x => x.pos.line) [Expr.Name x px, Expr.Name y py].head?).getD 0) <;> simp
  rcases hN' with rfl | hN'
  · repeat' split
    all_goals first | exact .inl rfl | exact .inr rfl | (exfalso; contradiction)
  · have hl : (N.length != 0 + 1 + 1 || N.eraseDups.length != N.length) = true := by
      rw [Bool.or_eq_true]; left
      simpa using hN'
    rw [hl]
    repeat' split
    all_goals first | exact .inl rfl | exact .inr rfl | (exfalso; contradiction)
end Mine
end

/-! Stm3 -/
section
open PySem PySem.W PyProof.Rows
set_option maxRecDepth 100000
namespace Mine
variable {prog : Program} {w : World} {h₁ : Heap} {n : Nat} {sc csc : Scope} {env : PySem.Env} {A : Around} {s₀ s s' s'' : Shared} {H₀ H H' H'' : PHeap} {r : PV} {Mu Mu' Mu'' : Addr → Prop} {σ σ' : Vars} {E : Value → Shared → Prop} {T : Tbl} {ev : Ev} {k : KS} {Q : Flow → Shared → Prop}

theorem swaps_plain {e : Expr} (h : notComp e = true) (t : Option Expr) (l : Nat) : swapsWith e t l env = pure false := by
  cases e <;> first | rfl | cases h
theorem not_inter (ok : EnvOk sc env) : interactive env = false := by
  unfold interactive
  rw [ok.kind]; rfl

theorem x_expr (EV : EvOk prog w h₁ n ev) (ok : EnvOk sc env) {e : Expr} {pos : Pos} (h : gate (notComp e) (ev.ev sc e (rdV σ) fun _ => k .next σ) = some r) (R : Room n A) (b : FB prog w h₁ Mu sc env σ s₀ H₀ s H)
    (N : NextS prog w h₁ sc env s₀ H₀ Mu s H k r Q) : wpAny (model prog w) A (exec (.Expr e pos) env) Q E s := by
  obtain ⟨hc, h⟩ := gate_some h
  refine wpAny_Expr_any ?_ (not_inter ok) (swaps_plain hc _ _)
  exact (EV sc env (rdV σ) ok).1 e _ r A E _ s H h R b.good fun v p s' H' a _ e' => N.go _ _ σ Mu s' H' (b.after a) (.after a) .next e'

theorem x_append (EV : EvOk prog w h₁ n ev) (ok : EnvOk sc env) {x m : Str} {p0 apos pos p1 : Pos} {a : Expr} {l : List PV} (hl : lookV σ x = some (.own l))
    (h : gate (decide (m = Str.ofString "append") && decide (apos.endLine = pos.line) && notStar a) (ev.ev sc a (rdV σ) fun p => gate (lenOk l.length) (k .next (putV σ x (.own (l ++ [p]))))) = some r) (R : Room n A)
    (b : FB prog w h₁ Mu sc env σ s₀ H₀ s H) (N : NextS prog w h₁ sc env s₀ H₀ Mu s H k r Q) : wpAny (model prog w) A (exec (.Expr (.Call (.Attribute (.Name x p0) m apos) [a] [] pos) p1) env) Q E s := by
  obtain ⟨gt, h2⟩ := gate_some h
  obtain ⟨gt, g3⟩ := and_split gt
  obtain ⟨g1, g2⟩ := and_split gt
  have g1 := of_decide_eq_true g1
  have g2 := of_decide_eq_true g2
  subst g1
  obtain ⟨D, vs, hv, hm, hp, hr⟩ := b.vars.own x l hl
  refine wpAny_Expr_any ?_ (not_inter ok) (swaps_plain rfl _ _)
  rw [arm_eval_Call, base_whole rfl]
  refine wpAny_bind (name_read ok.kind hv ?_)
  refine wpAny_bind (wpAny_standAt ?_)
  have htrees : backTo pos (starEach [a] env) = [(false, eval a env)] := by rw [starEach_plain g3]; rfl
  have hform : methodCallForm (([a] : List Expr).length + ([] : List Keyword).length) (backTo pos (starEach [a] env)) (backToKw pos (keywordEach [] env)) = true := by rw [htrees]; rfl
  have hpos : methodCallPos true (.Name x p0) env apos pos = pure pos := by unfold methodCallPos; simp [g2]
  unfold methodCall
  rw [hform]
  obtain ⟨nn, ho⟩ := id hp
  refine wpAny_bind (wpAny_holding (Calls.getMethod_list_append ho rfl rfl ?_))
  refine wpAny_bind (wpAny_of_eq hpos ?_)
  rw [htrees]
  refine Calls.callWith_builtin rfl (Calls.evalArgs_plain (Calls.spliced_cons ?_))
  refine (EV sc env (rdV σ) ok).1 a _ r A E _ s H h2 R b.good fun v p s' H' af hv' e' => ?_
  obtain ⟨gl, e'⟩ := gate_some e'
  have gl := lenOk_le gl
  refine Calls.spliced_nil ?_
  have hp' := hp.at (af.keep D)
  refine wpAny_list_append_plain (hsz := by have := hr.length; simp [sizeLine]; omega) hp' fun h' hl' hs' => ?_
  have b' := b.after af
  have hr' : RepL prog w H' (vs ++ [v]) (l ++ [p]) := (hr.mono af.grow).append (.cons hv' .nil)
  obtain ⟨n2, ho2⟩ := id hl'
  have bb : FB prog w h₁ Mu sc env (putV σ x (.own (l ++ [p]))) s₀ H₀ { s' with heap := h', toks := s'.toks } H' := ⟨b'.toBlk.change hl (hv.keeps af.keep) hm hp' hs' (by simpa using hl') hr', b.fresh⟩
  exact N.go _ _ _ Mu _ H' bb ((Step.after af).trans (.touch (.same hm hs' ho2))) .next e'

theorem x_ret (EV : EvOk prog w h₁ n ev) (ok : EnvOk sc env) {e : Expr} {pos : Pos} (h : (ev.ev sc e (rdA σ) fun p => k (.ret p) σ) = some r) (R : Room n A) (b : FB prog w h₁ Mu sc env σ s₀ H₀ s H)
    (N : NextS prog w h₁ sc env s₀ H₀ Mu s H k r Q) : wpAny (model prog w) A (exec (.Return (some e) pos) env) Q E s :=
  wpAny_Return_some ((EV sc env (rdA σ) ok).1 e _ r A E _ s _ h R b.opens fun v p s' H' a hv e' => N.ret v p σ s' H' (b.opened_after.trans a) hv e')

/-- a value, read with the block's own lists, that is no list -/
theorem flat_read (EV : EvOk prog w h₁ n ev) (ok : EnvOk sc env) {e : Expr} {g : PV → Option PV} {QQ : Value → Shared → Prop} (h : ev.ev sc e (rdA σ) g = some r) (R : Room n A) (b : FB prog w h₁ Mu sc env σ s₀ H₀ s H)
    (N : ∀ v p s', g p = some r → (flatP p = true → ∀ H, Rep prog w H v p) → FB prog w h₁ Mu sc env σ s₀ H₀ s' H → Keep s.heap s'.heap → QQ v s') : wpAny (model prog w) A (eval e env) QQ E s :=
  (EV sc env (rdA σ) ok).1 e _ r A E _ s _ h R b.opens fun v p s' H' a hv e' => N v p s' e' (fun f => hv.flat f) (b.forget a.same a.keep) a.keep

theorem x_name (EV : EvOk prog w h₁ n ev) (ok : EnvOk sc env) {x : Str} {px pos : Pos} {e : Expr} (hx : stOk sc x = true) (hc : notComp e = true) (h : (ev.ev sc e (rdV σ) fun p => k .next (putV σ x (.val p))) = some r) (R : Room n A)
    (b : FB prog w h₁ Mu sc env σ s₀ H₀ s H) (N : NextS prog w h₁ sc env s₀ H₀ Mu s H k r Q) : wpAny (model prog w) A (exec (.Assign [.Name x px] e pos) env) Q E s := by
  refine wpAny_Assign_Name ?_ (swaps_plain hc _ _)
  refine (EV sc env (rdV σ) ok).1 e _ r A E _ s H h R b.good fun v p s' H' a hv e' => ?_
  exact (b.toBlk.after a).store_val ok.kind ok.toKindOk hx hv fun s'' b'' t => N.go _ _ _ Mu s'' H' ⟨b'', b.fresh⟩ ((Step.after a).trans (.touch t)) .next e'
theorem x_name_own (EV : EvOk prog w h₁ n ev) (ok : EnvOk sc env) {x : Str} {px pos : Pos} {e : Expr} (hx : stOk sc x = true) (hc : notComp e = true) (h : (ev.ev sc e (rdA σ) fun p => gate (flatP p) (k .next (putV σ x (.val p)))) = some r) (R : Room n A)
    (b : FB prog w h₁ Mu sc env σ s₀ H₀ s H) (N : NextS prog w h₁ sc env s₀ H₀ Mu s H k r Q) : wpAny (model prog w) A (exec (.Assign [.Name x px] e pos) env) Q E s := by
  refine wpAny_Assign_Name ?_ (swaps_plain hc _ _)
  refine flat_read EV ok h R b fun v p s' e' hf b' kp => ?_
  obtain ⟨f, e'⟩ := gate_some e'
  exact b'.toBlk.store_val ok.kind ok.toKindOk hx (hf f H) fun s'' b'' t => N.go _ _ _ Mu s'' H ⟨b'', b.fresh⟩ ((Step.keeps kp).trans (.touch t)) .next e'

/-- an empty list is made -/
theorem new_list {QQ : Value → Shared → Prop} {pos : Pos} (b : FB prog w h₁ Mu sc env σ s₀ H₀ s H)
    (N : ∀ D s', s.heap.get? D = none → s'.heap.PlainList D #[] → Keep s.heap s'.heap → FB prog w h₁ Mu sc env σ s₀ H₀ s' H → ¬ Mu D → H D = none → s₀.heap.get? D = none → QQ (.ref D) s') :
    wpAny (model prog w) A (eval (.List [] pos) env) QQ E s := by
  refine wpAny_List_spliced (Calls.spliced_nil ⟨by simp, ?_⟩)
  have hn := get_size_none s.heap
  refine N _ _ hn ⟨_, Heap.get?_push_size _ rfl⟩ (.push _ _) (b.forget (.upd s _ s.toks) (.push _ _)) (fun hm => ?_) ?_ ?_
  · obtain ⟨o, q⟩ := b.mid.alive _ hm
    rw [hn] at q; cases q
  · cases q : H s.heap.objs.size with
    | none => rfl
    | some o => rw [b.mid.sub _ _ q] at hn; cases hn
  · cases q : s₀.heap.get? s.heap.objs.size with
    | none => rfl
    | some o => rw [b.finish.keep _ _ q] at hn; cases hn
theorem FB.own1 (b : FB prog w h₁ Mu sc env σ s₀ H₀ s H) {D : Addr} (b' : Blk prog w h₁ (Or1 Mu D) sc env σ' s₀ H₀ s' H') (h0 : s₀.heap.get? D = none) : FB prog w h₁ (Or1 Mu D) sc env σ' s₀ H₀ s' H' :=
  ⟨b', fun a h => h.elim (b.fresh a) fun q => q ▸ h0⟩

theorem x_newlist (ok : EnvOk sc env) {x : Str} {px pos p1 : Pos} (hx : stOk sc x = true) (h : k .next (putV σ x (.own [])) = some r) (b : FB prog w h₁ Mu sc env σ s₀ H₀ s H) (N : NextS prog w h₁ sc env s₀ H₀ Mu s H k r Q) :
    wpAny (model prog w) A (exec (.Assign [.Name x px] (.List [] p1) pos) env) Q E s := by
  refine wpAny_Assign_Name ?_ (swaps_plain rfl _ _)
  refine new_list b fun D s' hn hp kp b' hm hH h0 => ?_
  refine b'.toBlk.store_own (vs := []) ok.kind ok.toKindOk hx hm hH hp .nil fun s'' b'' t => ?_
  exact N.go _ _ _ _ s'' H (b.own1 b'' h0) ⟨fun a o n q => t.keep a o n (kp a o q), fun a h => .inl h, fun a h => h.elim .inl fun q => .inr (q ▸ hn), fun _ _ q => q, fun _ _ q => .inl q, fun a o q => t.live a o (kp a o q)⟩ .next h
end Mine
end

/-! Stm4 -/
section
open PySem PySem.W PyProof.Rows
set_option maxRecDepth 100000
namespace Mine
variable {prog : Program} {w : World} {h₁ : Heap} {n : Nat} {sc csc : Scope} {env : PySem.Env} {A : Around} {s₀ s s' s'' : Shared} {H₀ H H' H'' : PHeap} {r : PV} {Mu Mu' Mu'' : Addr → Prop} {σ σ' : Vars} {E : Value → Shared → Prop} {T : Tbl} {ev : Ev} {k : KS} {Q : Flow → Shared → Prop}

theorem Step.poke (x : Step Mu s H Mu' s' H') {C : Addr} {h : Heap} {t : Nat} (hC : s.heap.get? C = none) (hs : ∀ c o, c ≠ C → s'.heap.get? c = some o → h.get? c = some o) : Step Mu s H Mu' { s' with heap := h, toks := t } H' :=
  ⟨fun a o n e => hs a o (fun q => by rw [q, hC] at e; cases e) (x.keep a o n e), x.sub, x.new, x.grow, x.fresh, fun a o e => by
    obtain ⟨o', q⟩ := x.live a o e
    exact ⟨o', hs a o' (fun q => by rw [q, hC] at e; cases e) q⟩⟩

theorem x_comp (TO : TblOk prog w h₁ n T) (EV : EvOk prog w h₁ n ev) (ok : EnvOk sc env) {x : Str} {px pos cpos : Pos} {elt : Expr} {gens : List Comprehension} (hx : stOk sc x = true)
    (h : ((evStep T ev).ev sc (.ListComp elt gens csc cpos) (rdV σ) fun p => k .next (putV σ x (.val p))) = some r) (R : Room n A) (b : FB prog w h₁ Mu sc env σ s₀ H₀ s H)
    (N : NextS prog w h₁ sc env s₀ H₀ Mu s H k r Q) : wpAny (model prog w) A (exec (.Assign [.Name x px] (.ListComp elt gens csc cpos) pos) env) Q E s := by
  cases hsw : (env.blockKind == .function && env.kindOf x == some .local && px.line == cpos.line && !(csc.names.any fun (n, k) => n == x && (k == .local || k == .cell))) with
  | false =>
    have hs : swapsWith (.ListComp elt gens csc cpos) (some (.Name x px)) pos.line env = pure false := by
      show (pure (env.blockKind == .function && env.kindOf x == some .local && px.line == cpos.line && !(csc.names.any fun (n, k) => n == x && (k == .local || k == .cell))) : Sem Bool) = _
      rw [hsw]
    refine wpAny_Assign_Name ?_ hs
    refine evStep_ev TO EV ok _ _ r A E _ s H h R b.good fun v p s' H' a hv e' => ?_
    exact (b.toBlk.after a).store_val ok.kind ok.toKindOk hx hv fun s'' b'' t => N.go _ _ _ Mu s'' H' ⟨b'', b.fresh⟩ ((Step.after a).trans (.touch t)) .next e'
  | true =>
    have hs : swapsWith (.ListComp elt gens csc cpos) (some (.Name x px)) pos.line env = pure true := by
      show (pure (env.blockKind == .function && env.kindOf x == some .local && px.line == cpos.line && !(csc.names.any fun (n, k) => n == x && (k == .local || k == .cell))) : Sem Bool) = _
      rw [hsw]
    simp only [evStep] at h
    split at h
    all_goals first | (rename_i q; cases q; done) | skip
    · rename_i _ tgt iter csc' cp q
      cases q
      obtain ⟨gt, h⟩ := gate_some h
      obtain ⟨g1, g2⟩ := and_split gt
      rw [exec_Assign_Name_used _ _ _ _ hs]
      refine wpAny_bind (wpAny_standAt (wpAny_bind ?_))
      show wpAny _ A (do let _ ← comprehension (.ListComp elt [⟨tgt, iter, [], 0⟩] csc cpos) csc env (firstIterPos [⟨tgt, iter, [], 0⟩] cpos) (newList []) false (eval iter env) (some (assign (.Name x px) env))) _ _ s
      have S := (EV sc env (rdV σ) ok).1
      refine wpAny_bind (wpAny_mono (comp_open (use := some (assign (.Name x px) env)) (Q := fun _ s' => Q .next s') (ev1 := fun ρ e k => ev.ev csc e ρ k) ok R S (fun cenv ρ okc => (EV csc cenv ρ okc).1) b.good g2 g1 h
        fun D C s' H' vs ps a hD hC oD oC hDC hp hr hn e' => ?_) (fun _ s' hq => wpAny_pure (wpAny_pure hq)) fun _ _ e => e)
      obtain ⟨nn, ho⟩ := hp
      obtain ⟨m, hm⟩ := hn
      have a' := a.reveal hD ho oD
      have nMu : ¬ Mu C := fun q => by
        obtain ⟨o, z⟩ := b.mid.alive C q
        rw [hC] at z; cases z
      have s0C : s₀.heap.get? C = none := by
        cases q : s₀.heap.get? C with
        | none => rfl
        | some o => rw [b.finish.keep _ _ q] at hC; cases hC
      have HC : withObj H' D { cls := .type "list", data := .seq vs.toArray nn } C = none := by
        unfold withObj; rw [if_neg (fun q => hDC q.symm)]; exact oC
      show wpAny _ A (assign (.Name x px) env (.ref D)) _ _ _
      refine wpAny_assign_Name ((b.after a').toBlk.store_val ok.kind ok.toKindOk hx (.lst (withObj_self _ _ _) rfl rfl (hr.mono (grow_off oD _))) fun s'' b'' t => ?_)
      have hm' : s''.heap.Ns C m := hm.at' fun o q => t.keep C o nMu q
      refine ⟨m, hm', fun h' hs' => ?_⟩
      exact N.go _ _ _ Mu _ _ ⟨b''.other (t := s''.toks) nMu s0C HC (fun v q => ns_not_cell hm' q) (fun c o ne q => (hs'.2 c ne).trans q), b.fresh⟩ (((Step.after a').trans (.touch t)).poke hC fun c o ne q => (hs'.2 c ne).trans q) .next e'
    · cases h

theorem lookV_comm {x y : Str} {bx by' : Bnd} (hxy : x ≠ y) (z : Str) : lookV (putV (putV σ x bx) y by') z = lookV (putV (putV σ y by') x bx) z := by
  simp only [lookV_put]
  by_cases h1 : y = z
  · subst h1; simp [hxy]
  · by_cases h2 : x = z <;> simp [h1, h2]

/-- two values are stored, in either order -/
theorem two_vals (ok : EnvOk sc env) {x y : Str} {v u : Value} {p q : PV} {QQ : Unit → Shared → Prop} (hxy : x ≠ y) (hx : stOk sc x = true) (hy : stOk sc y = true) (hv : Rep prog w H v p) (hu : Rep prog w H u q) (b : Blk prog w h₁ Mu sc env σ s₀ H₀ s H)
    (N : ∀ s', Blk prog w h₁ Mu sc env (putV (putV σ x (.val p)) y (.val q)) s₀ H₀ s' H → Touch Mu s s' → QQ () s') :
    wpAny (model prog w) A (storeName env x v) (fun _ s => wpAny (model prog w) A (storeName env y u) QQ E s) E s ∧ wpAny (model prog w) A (storeName env y u) (fun _ s => wpAny (model prog w) A (storeName env x v) QQ E s) E s :=
  ⟨b.store_val ok.kind ok.toKindOk hx hv fun _ b' t => b'.store_val ok.kind ok.toKindOk hy hu fun s'' b'' t' => N s'' b'' (t.trans t'),
   b.store_val ok.kind ok.toKindOk hy hu fun _ b' t => b'.store_val ok.kind ok.toKindOk hx hv fun s'' b'' t' => N s'' (b''.alike fun z => lookV_comm hxy z) (t.trans t')⟩
theorem Touch.or1 {D : Addr} (t : Touch Mu s s') (t' : Touch (Or1 Mu D) s' s'') (hD : s.heap.get? D = none ∨ True) : ∀ a o, ¬ Mu a → a ≠ D → s.heap.get? a = some o → s''.heap.get? a = some o := fun a o n ne e =>
  t'.keep a o (fun h => h.elim n ne) (t.keep a o n e)
theorem two_own (ok : EnvOk sc env) {x y : Str} {D : Addr} {u : Value} {q : PV} {QQ : Unit → Shared → Prop} (hxy : x ≠ y) (hx : stOk sc x = true) (hy : stOk sc y = true) (hm : ¬ Mu D) (hH : H D = none) (hp : s.heap.PlainList D #[]) (hu : Rep prog w H u q) (b : Blk prog w h₁ Mu sc env σ s₀ H₀ s H)
    (N : ∀ s', Blk prog w h₁ (Or1 Mu D) sc env (putV (putV σ x (.own [])) y (.val q)) s₀ H₀ s' H → (∀ a o, ¬ Mu a → a ≠ D → s.heap.get? a = some o → s'.heap.get? a = some o) → (∀ a o, s.heap.get? a = some o → ∃ o, s'.heap.get? a = some o) → QQ () s') :
    wpAny (model prog w) A (storeName env x (.ref D)) (fun _ s => wpAny (model prog w) A (storeName env y u) QQ E s) E s ∧ wpAny (model prog w) A (storeName env y u) (fun _ s => wpAny (model prog w) A (storeName env x (.ref D)) QQ E s) E s :=
  ⟨b.store_own (vs := []) ok.kind ok.toKindOk hx hm hH hp .nil fun _ b' t => b'.store_val ok.kind ok.toKindOk hy hu fun s'' b'' t' => N s'' b'' (t.or1 t' (.inr trivial)) fun a o e => let ⟨o', z⟩ := t.live a o e; t'.live a o' z,
   b.store_val ok.kind ok.toKindOk hy hu fun _ b' t => b'.store_own (vs := []) ok.kind ok.toKindOk hx hm hH (hp.at fun o e => t.keep D o hm e) .nil fun s'' b'' t' => N s'' (b''.alike fun z => lookV_comm hxy z) (fun a o n _ e => t'.keep a o n (t.keep a o n e)) fun a o e => let ⟨o', z⟩ := t.live a o e; t'.live a o' z⟩

/-- a tuple at hand, taken apart into two names, in either order -/
theorem pair_stores (hh : A.handled = none) {x y : Str} {px py tp vp pos : Pos} {c1 c2 : Nat} {e1 e2 : Expr} (hxy : x ≠ y) (h1 : notStar e1 = true) (h2 : notStar e2 = true) (hc : (constantsAlone 8 e1 && constantsAlone 8 e2) = false)
    (h : wpAny (model prog w) A (eval e1 env) (fun v s₁ => wpAny (model prog w) A (eval e2 env) (fun u s₂ => ∀ h', Keep s₂.heap h' →
      wpAny (model prog w) A (storeName env x v) (fun _ s => wpAny (model prog w) A (storeName env y u) (fun _ => Q .next) E s) E { s₂ with heap := h' } ∧
      wpAny (model prog w) A (storeName env y u) (fun _ s => wpAny (model prog w) A (storeName env x v) (fun _ => Q .next) E s) E { s₂ with heap := h' }) E s₁) E s) :
    wpAny (model prog w) A (exec (.Assign [.Tuple [.Name x px, .Name y py] c1 tp] (.Tuple [e1, e2] c2 vp) pos) env) Q E s := by
  have tup : ∀ (QQ : Value → Shared → Prop), (∀ (v u : Value) (s₂ : Shared), (∀ h', Keep s₂.heap h' →
      wpAny (model prog w) A (storeName env x v) (fun _ s => wpAny (model prog w) A (storeName env y u) (fun _ => Q .next) E s) E { s₂ with heap := h' } ∧
      wpAny (model prog w) A (storeName env y u) (fun _ s => wpAny (model prog w) A (storeName env x v) (fun _ => Q .next) E s) E { s₂ with heap := h' }) →
      QQ (.ref s₂.heap.objs.size) { s₂ with heap := s₂.heap.push { cls := .type "tuple", data := .seq [v, u].toArray } }) → wpAny (model prog w) A (eval (.Tuple [e1, e2] c2 vp) env) QQ E s := by
    intro QQ hQ
    refine wpAny_Tuple_spliced ?_
    rw [starEach_plain h1, starEach_plain h2]
    refine Calls.spliced_cons (wpAny_mono h (fun v s₁ hv => ?_) fun _ _ e => e)
    refine Calls.spliced_cons (wpAny_mono hv (fun u s₂ hu => ?_) fun _ _ e => e)
    exact Calls.spliced_nil ⟨by rw [sizeLine_eq]; simp, hQ v u s₂ hu⟩
  rcases swap2 (env := env) (px := px) (py := py) (tp := tp) (c1 := c1) (c2 := c2) (vp := vp) hxy h1 h2 hc with hw | hw
  · refine Assign_Tuple ?_ rfl hw
    refine tup _ fun v u s₂ hs => ?_
    refine wpAny_assign_Tuple hh (items := #[v, u]) ⟨_, Heap.get?_push_size _ rfl, rfl, _, rfl⟩ rfl rfl fun h' hx => ?_
    have := (hs h' fun a o e => hx a o (by have := Heap.lt_size e; rw [Heap.size_push]; exact Nat.ne_of_lt (Nat.lt_succ_of_lt this)) (Heap.get?_push_of_some _ e)).1
    show wpAny _ A (do holding _ (assign (.Name x px) env v); assignInOrder [assign (.Name y py) env] [u]) _ E _
    refine wpAny_bind (wpAny_holding (wpAny_assign_Name (wpAny_mono this (fun _ s hq => ?_) fun _ _ e => e)))
    show wpAny _ A (do holding _ (assign (.Name y py) env u); assignInOrder [] []) _ E _
    exact wpAny_bind (wpAny_holding (wpAny_assign_Name (wpAny_mono hq (fun _ _ q => wpAny_pure q) fun _ _ e => e)))
  · refine Assign_Tuple_swapped ?_ rfl hw
    refine tup _ fun v u s₂ hs => ?_
    refine wpAny_unpackItems_tuple (items := #[v, u]) hh ⟨_, Heap.get?_push_size _ rfl, rfl, _, rfl⟩ fun h' hx => ?_
    have := (hs h' fun a o e => hx a o (by have := Heap.lt_size e; rw [Heap.size_push]; exact Nat.ne_of_lt (Nat.lt_succ_of_lt this)) (Heap.get?_push_of_some _ e)).2
    show wpAny _ A (do holding _ (bindName env y u); assignInOrder [fun v => bindName env x v] [v]) _ E _
    refine wpAny_bind (wpAny_holding (wpAny_bindName (wpAny_mono this (fun _ s hq => ?_) fun _ _ e => e)))
    show wpAny _ A (do holding _ (bindName env x v); assignInOrder [] []) _ E _
    exact wpAny_bind (wpAny_holding (wpAny_bindName (wpAny_mono hq (fun _ _ q => wpAny_pure q) fun _ _ e => e)))
end Mine
end

/-! Stm5 -/
section
open PySem PySem.W PyProof.Rows
set_option maxRecDepth 100000
namespace Mine
variable {prog : Program} {w : World} {h₁ : Heap} {n : Nat} {sc csc : Scope} {env : PySem.Env} {A : Around} {s₀ s s' s'' : Shared} {H₀ H H' H'' : PHeap} {r : PV} {Mu Mu' Mu'' : Addr → Prop} {σ σ' : Vars} {E : Value → Shared → Prop} {T : Tbl} {ev : Ev} {k : KS} {Q : Flow → Shared → Prop} {ex : Stmt → Vars → KS → Option PV}

theorem x_two (EV : EvOk prog w h₁ n ev) (ok : EnvOk sc env) {x y : Str} {px py tp vp pos : Pos} {c1 c2 : Nat} {e1 e2 : Expr} (hxy : x ≠ y) (hx : stOk sc x = true) (hy : stOk sc y = true) (h1 : notStar e1 = true) (h2 : notStar e2 = true)
    (hc : (constantsAlone 8 e1 && constantsAlone 8 e2) = false) (h : (ev.ev sc e1 (rdV σ) fun p1 => ev.ev sc e2 (rdV σ) fun p2 => k .next (putV (putV σ x (.val p1)) y (.val p2))) = some r) (R : Room n A)
    (b : FB prog w h₁ Mu sc env σ s₀ H₀ s H) (N : NextS prog w h₁ sc env s₀ H₀ Mu s H k r Q) : wpAny (model prog w) A (exec (.Assign [.Tuple [.Name x px, .Name y py] c1 tp] (.Tuple [e1, e2] c2 vp) pos) env) Q E s := by
  have S := (EV sc env (rdV σ) ok).1
  refine pair_stores R.handled hxy h1 h2 hc ?_
  refine S e1 _ r A E _ s H h R b.good fun v p s₁ H₁ a hv e' => ?_
  refine S e2 _ r A E _ s₁ H₁ e' R (b.after a).good fun u q s₂ H₂ a2 hu e2 h' kp => ?_
  have b2 := (b.after (a.trans a2)).forget (.upd s₂ h' s₂.toks) kp
  refine two_vals (QQ := fun _ => Q .next) ok hxy hx hy (hv.mono a2.grow) hu b2.toBlk fun s₃ b3 t => ?_
  exact N.go _ _ _ Mu s₃ H₂ ⟨b3, b.fresh⟩ (((Step.after (a.trans a2)).trans (.keeps kp)).trans (.touch t)) .next e2

theorem x_two_own (EV : EvOk prog w h₁ n ev) (ok : EnvOk sc env) {x y : Str} {px py tp vp pos lp : Pos} {c1 c2 : Nat} {e2 : Expr} (hxy : x ≠ y) (hx : stOk sc x = true) (hy : stOk sc y = true) (h2 : notStar e2 = true)
    (h : (ev.ev sc e2 (rdV σ) fun p => k .next (putV (putV σ x (.own [])) y (.val p))) = some r) (R : Room n A)
    (b : FB prog w h₁ Mu sc env σ s₀ H₀ s H) (N : NextS prog w h₁ sc env s₀ H₀ Mu s H k r Q) : wpAny (model prog w) A (exec (.Assign [.Tuple [.Name x px, .Name y py] c1 tp] (.Tuple [.List [] lp, e2] c2 vp) pos) env) Q E s := by
  have S := (EV sc env (rdV σ) ok).1
  refine pair_stores R.handled hxy rfl h2 rfl ?_
  refine new_list b fun D s₁ hn hp kp b' hm hH h0 => ?_
  refine S e2 _ r A E _ s₁ H h R b'.good fun u q s₂ H₂ a hu e' h' kp2 => ?_
  have b2 := (b'.after a).forget (.upd s₂ h' s₂.toks) kp2
  have hH2 : H₂ D = none := by
    cases z : H₂ D with
    | none => rfl
    | some o =>
      rcases a.fresh D o z with q | q
      · rw [hH] at q; cases q
      · obtain ⟨nn, ho⟩ := hp
        rw [ho] at q; cases q
  have hp2 : h'.PlainList D #[] := hp.at fun o q => kp2 _ _ (a.keep _ _ q)
  refine two_own (QQ := fun _ => Q .next) ok hxy hx hy hm hH2 hp2 hu b2.toBlk fun s₃ b3 t1 t2 => ?_
  refine N.go _ _ _ _ s₃ H₂ (b.own1 b3 h0) ?_ .next e'
  have k0 : Keep s.heap h' := fun a' o q => kp2 _ _ (a.keep _ _ (kp _ _ q))
  exact ⟨fun c o nn q => t1 c o nn (fun z => by rw [z, hn] at q; cases q) (k0 c o q), fun c q => .inl q, fun c q => q.elim .inl fun z => .inr (z ▸ hn), a.grow, fun c o q => (a.fresh c o q).elim .inl fun z => .inr (by
    cases y : s.heap.get? c with
    | none => rfl
    | some o' => rw [kp _ _ y] at z; cases z), fun c o q => t2 c o (k0 c o q)⟩

theorem swapped_none {ts : List Expr} {c : Nat} {tp : Pos} {e : Expr} (h : notTup e = true) : swappedStores [.Tuple ts c tp] e env = pure none := by
  cases e <;> first | rfl | cases h
theorem x_unpack (EV : EvOk prog w h₁ n ev) (ok : EnvOk sc env) {ts : List Expr} {c : Nat} {tp pos : Pos} {e : Expr} {xs : List Str} (ht : targets sc ts = some xs) (hc : notComp e = true) (hn : notTup e = true)
    (h : (ev.ev sc e (rdV σ) fun p => match p with
        | .tup ps => match bindBs xs (ps.map .val) σ with
          | some σ' => k .next σ'
          | none => none
        | _ => none) = some r) (R : Room n A)
    (b : FB prog w h₁ Mu sc env σ s₀ H₀ s H) (N : NextS prog w h₁ sc env s₀ H₀ Mu s H k r Q) : wpAny (model prog w) A (exec (.Assign [.Tuple ts c tp] e pos) env) Q E s := by
  have hs : swapsWithSole [.Tuple ts c tp] e pos.line env = pure false := swaps_plain (env := env) hc (some (.Tuple ts c tp)) pos.line
  refine Assign_Tuple ?_ hs (swapped_none hn)
  refine (EV sc env (rdV σ) ok).1 e _ r A E _ s H h R b.good fun v p s' H' a hv e' => ?_
  split at e'
  · split at e'
    · rename_i σ' hb
      exact unpack_sound R.handled ok.kind ok.toKindOk ht hv hb (b.after a).toBlk fun s₂ b2 t => N.go _ _ _ Mu s₂ H' ⟨b2, b.fresh⟩ ((Step.after a).trans (.touch t)) .next e'
    · cases e'
  · cases e'

theorem x_last (EV : EvOk prog w h₁ n ev) (ok : EnvOk sc env) {x : Str} {p0 p1 p2 p3 pos : Pos} {c : Nat} {e : Expr} {l : List PV} (hl : lookV σ x = some (.own l)) (hc : notComp e = true)
    (h : (ev.ev sc e (rdA σ) fun p => gate (flatP p && !l.isEmpty && lenOk l.length) (k .next (putV σ x (.own (setLast l p))))) = some r) (R : Room n A)
    (b : FB prog w h₁ Mu sc env σ s₀ H₀ s H) (N : NextS prog w h₁ sc env s₀ H₀ Mu s H k r Q) :
    wpAny (model prog w) A (exec (.Assign [.Subscript (.Name x p0) (.UnaryOp .USub (.Constant (.int 1) c p1) p2) p3] e pos) env) Q E s := by
  refine wpAny_Assign_Subscript ?_ (swaps_plain hc _ _)
  refine flat_read EV ok h R b fun v p s' e' hf b' kp => ?_
  obtain ⟨gt, e'⟩ := gate_some e'
  obtain ⟨gt, g3⟩ := and_split gt
  obtain ⟨g1, g2⟩ := and_split gt
  have g3 := lenOk_le g3
  obtain ⟨D, vs, hv, hm, hp, hr⟩ := b'.vars.own x l hl
  have hlen := hr.length
  refine name_read ok.kind hv ?_
  refine wpAny_UnaryOp (wpAny_Constant_int (neg_int ?_))
  have hpos : 0 < l.length := by
    cases l with
    | nil => cases g2
    | cons => simp
  have last : ∀ {α : Type} (l : List α) (p : α), l ≠ [] → l.set (l.length - 1) p = l.dropLast ++ [p] := by
    intro α l p hne
    obtain ⟨l', q, rfl⟩ : ∃ l' q, l = l' ++ [q] := ⟨l.dropLast, l.getLast hne, (List.dropLast_concat_getLast hne).symm⟩
    simp
  refine setItem_last hp (by simp; omega) (by simp; omega) fun h' hl' hs' => ?_
  obtain ⟨n2, ho2⟩ := id hl'
  have hne : l ≠ [] := by intro q; rw [q] at hpos; cases hpos
  have hr' : RepL prog w H (vs.set (vs.length - 1) v) (setLast l p) := by
    have := hr.set (i := vs.length - 1) (hf g1 H)
    rw [hlen, last l p hne] at this
    rw [hlen]; exact this
  have hl2 : h'.PlainList D (vs.set (vs.length - 1) v).toArray := by simpa using hl'
  exact N.go _ _ _ Mu _ H ⟨Blk.change (t := s'.toks + 1 + 1) (s := { s' with toks := s'.toks + 1 + 1 }) (b'.toBlk.forget (.upd _ _ _) (.refl _)) hl hv hm hp hs' hl2 hr', b.fresh⟩ ((Step.keeps kp).trans (.touch (.same hm hs' ho2))) .next e'

theorem x_aug (EV : EvOk prog w h₁ n ev) (ok : EnvOk sc env) {x : Str} {p0 pos : Pos} {op : Operator} {e : Expr} {a : Int} (ha : lookV σ x = some (.val (.int a))) (hx : stOk sc x = true)
    (h : (ev.ev sc e (rdV σ) fun b => match b with
      | .int b => augK op a b fun c => k .next (putV σ x (.val (.int c)))
      | _ => none) = some r) (R : Room n A) (b : FB prog w h₁ Mu sc env σ s₀ H₀ s H) (N : NextS prog w h₁ sc env s₀ H₀ Mu s H k r Q) :
    wpAny (model prog w) A (exec (.AugAssign (.Name x p0) op e pos) env) Q E s := by
  obtain ⟨v, hv, hr⟩ := b.vars.val x _ ha
  refine wpAny_AugAssign_Name (load_read ok.kind hv ?_)
  refine (EV sc env (rdV σ) ok).1 e _ r A E _ s H h R b.good fun u p s' H' af hu e' => ?_
  cases hr
  have fin : ∀ c t, k .next (putV σ x (.val (.int c))) = some r → wpAny (model prog w) A (storeName env x (.int c s'.toks)) (fun _ => Q .next) E { s' with toks := t } := fun c t e2 =>
    ((b.after af).forget (.upd s' s'.heap t) (.refl _)).toBlk.store_val ok.kind ok.toKindOk hx (.int _ _) fun s'' b'' tt => N.go _ _ _ Mu s'' H' ⟨b'', b.fresh⟩ (((Step.after af).trans (Step.keeps (s := s') (s' := { s' with toks := t }) (.refl _))).trans (.touch tt)) .next e2
  split at e'
  · cases hu
    unfold augK at e'
    split at e'
    · exact P.iadd_int (fin _ _ e')
    · obtain ⟨g, e'⟩ := gate_some e'
      obtain ⟨g1, g2⟩ := and_split g
      exact P.imul_int (fin _ _ e') (IntMulOk.of_left (intBits_small (small_lt g1)))
    · exact iand_int (fin _ _ e')
    · cases e'
  · cases e'

theorem x_if (EV : EvOk prog w h₁ n ev) (ok : EnvOk sc env) (S : SndX prog w h₁ n sc env s₀ H₀ ex) {t : Expr} {bd o : List Stmt} {pos : Pos} (h : (ev.tr sc t (rdA σ) fun c => bif c then exList ex bd σ k else exList ex o σ k) = some r) (R : Room n A)
    (b : FB prog w h₁ Mu sc env σ s₀ H₀ s H) (N : NextS prog w h₁ sc env s₀ H₀ Mu s H k r Q) : wpAny (model prog w) A (exec (.If t bd o pos) env) Q E s := by
  refine wpAny_If ?_
  refine (EV sc env (rdA σ) ok).2 t _ r A E _ s _ h R b.opens fun c s' H' a e' => ?_
  have b' := b.forget a.same a.keep
  cases c with
  | true => exact exList_sound S R bd σ k Q Mu s' H e' b' (N.shift (.keeps a.keep))
  | false => exact exList_sound S R o σ k Q Mu s' H e' b' (N.shift (.keeps a.keep))

theorem x_while (EV : EvOk prog w h₁ n ev) (ok : EnvOk sc env) (S : SndX prog w h₁ n sc env s₀ H₀ ex) {t : Expr} {bd : List Stmt} {pos : Pos} {f : Nat} (h : whileK (fun σ k => ev.tr sc t (rdA σ) k) (exList ex bd) f σ k = some r) (R : Room n A)
    (b : FB prog w h₁ Mu sc env σ s₀ H₀ s H) (N : NextS prog w h₁ sc env s₀ H₀ Mu s H k r Q) : wpAny (model prog w) A (exec (.While t bd [] pos) env) Q E s := by
  refine wpAny_While ?_
  refine codeAny_whileLoop (fun m s₂ => ∃ Mu' σ' H', FB prog w h₁ Mu' sc env σ' s₀ H₀ s₂ H' ∧ Step Mu s H Mu' s₂ H' ∧ whileK (fun σ k => ev.tr sc t (rdA σ) k) (exList ex bd) m σ' k = some r) ?_ f ⟨Mu, σ, H, b, .refl, h⟩
  rintro m s₂ ⟨Mu', σ', H', b', st, e⟩
  cases m with
  | zero => cases e
  | succ m =>
    refine (EV sc env (rdA σ') ok).2 t _ r A _ _ s₂ _ e R b'.opens fun c s₃ H₃ a e' => ?_
    have b3 := b'.forget a.same a.keep
    have st3 := st.trans (.keeps a.keep)
    cases c with
    | false => exact wpAny_execs_nil (N.go _ _ σ' Mu' s₃ H' b3 st3 .next e')
    | true =>
      refine exList_sound S R bd σ' _ _ Mu' s₃ H' e' b3 ⟨fun fl f σ'' Mu'' s₄ H₄ b4 st4 mm e4 => ?_, fun v p σ'' s₄ H₄ a4 hv e4 => N.ret v p σ'' s₄ H₄ a4 hv e4⟩
      cases mm with
      | next => exact ⟨m, Nat.lt_succ_self m, Mu'', σ'', H₄, b4, st3.trans st4, e4⟩
      | cnt => exact ⟨m, Nat.lt_succ_self m, Mu'', σ'', H₄, b4, st3.trans st4, e4⟩
      | brk => exact N.go _ _ σ'' Mu'' s₄ H₄ b4 (st3.trans st4) .next e4
end Mine
end

/-! Stm6 -/
section
open PySem PySem.W PyProof.Rows
set_option maxRecDepth 100000
namespace Mine
variable {prog : Program} {w : World} {h₁ : Heap} {n : Nat} {sc csc : Scope} {env : PySem.Env} {A : Around} {s₀ s s' s'' : Shared} {H₀ H H' H'' : PHeap} {r : PV} {Mu Mu' Mu'' : Addr → Prop} {σ σ' : Vars} {E : Value → Shared → Prop} {T : Tbl} {ev : Ev} {k : KS} {Q : Flow → Shared → Prop} {ex : Stmt → Vars → KS → Option PV}

theorem x_forA (EV : EvOk prog w h₁ n ev) (ok : EnvOk sc env) (S : SndXA prog w h₁ A n sc env s₀ H₀ ex) {t it : Expr} {bd : List Stmt} {pos : Pos} (hi : notSet it = true)
    (h : (ev.ev sc it (rdV σ) fun p => match itemsOf p with
    | some xs => gate (lenOk xs.length) (forK (bindT sc t) (exList ex bd) xs σ k)
    | none => none) = some r) (R : Room n A)
    (b : FB prog w h₁ Mu sc env σ s₀ H₀ s H) (N : NextS prog w h₁ sc env s₀ H₀ Mu s H k r Q) : wpAny (model prog w) A (exec (.For t it bd [] pos) env) Q E s := by
  refine wpAny_For ?_ (notSet_fold hi)
  refine (EV sc env (rdV σ) ok).1 it _ r A E _ s H h R b.good fun v p s₁ H₁ a hv e' => ?_
  split at e'
  case h_2 => cases e'
  rename_i xs hxs
  obtain ⟨hl, e'⟩ := gate_some e'
  have b₁ := b.after a
  refine iter_sound b₁.mid.sub R.handled hv hxs hl fun I fp P St h' kI hI W st hIlt => ?_
  have b₂ := b₁.forget (.upd s₁ h' s₁.toks) kI
  have nMu : ¬ Mu I := fun q => by
    obtain ⟨o, z⟩ := b₁.mid.alive I q
    rw [hI] at z; cases z
  have hH1 : H₁ I = none := by
    cases z : H₁ I with
    | none => rfl
    | some o => rw [b₁.mid.sub _ _ z] at hI; cases hI
  have s0I : s₀.heap.get? I = none := by
    cases z : s₀.heap.get? I with
    | none => rfl
    | some o => rw [b₁.finish.keep _ _ z] at hI; cases hI
  have N₁ : NextS prog w h₁ sc env s₀ H₀ Mu s₁ H₁ k r Q := N.shift (.after a)
  refine codeAny_forLoop_any (fun m s => ∃ j Mu' σ' Hj, m = xs.length - j ∧ j ≤ xs.length ∧ FB prog w h₁ Mu' sc env σ' s₀ H₀ s Hj ∧ Step Mu s₁ H₁ Mu' s Hj ∧ St j s.heap ∧ ¬ Mu' I ∧ Hj I = none ∧ forK (bindT sc t) (exList ex bd) (xs.drop j) σ' k = some r) ?_ xs.length
    ⟨0, Mu, σ, H₁, rfl, Nat.zero_le _, b₂, .keeps kI, st, nMu, hH1, e'⟩
  rintro m sj ⟨j, Mu', σ', Hj, rfl, hj, bj, stp, stj, nI, hHI, e⟩
  obtain ⟨oI, TI, fs, ho, hcls, hdat, hq⟩ := W.quiet _ _ stj
  have notCell : ∀ v, ¬ sj.heap.IsCell I v := by
    rintro v ⟨o, z, hd⟩
    rw [ho] at z; cases z
    rw [hdat] at hd; cases hd
  by_cases hlt : j < xs.length
  · refine W.walks.item j sj _ _ hlt stj fun v h2 tk hP st' hk => ?_
    have hk' : ∀ c o, c ≠ I → sj.heap.get? c = some o → h2.get? c = some o := fun c o hc q => hk c o (fun z => hc (List.mem_singleton.mp z)) q
    obtain ⟨oI', TI', fs', ho', hcls', hdat', hq'⟩ := W.quiet _ _ st'
    refine letOwned_quiet ho' hcls' hdat' hq' ?_
    obtain ⟨p, hp, hrep⟩ := W.gives j v hlt hP
    have hdrop : xs.drop j = p :: xs.drop (j + 1) := by
      rw [List.drop_eq_getElem_cons hlt]
      rw [List.getElem?_eq_getElem hlt] at hp
      cases hp; rfl
    rw [hdrop] at e
    unfold forK at e
    split at e
    case h_2 => cases e
    rename_i σ₁ hb
    have bk := bj.toBlk.other (t := tk) nI s0I hHI notCell hk'
    refine bindT_sound R.handled ok.kind ok.toKindOk (hrep.mono stp.grow) hb bk fun s₅ b₅ t₅ => ?_
    have stp5 := (stp.poke (t := tk) hI hk').trans (.touch t₅)
    have fr : ∀ (Mu'' : Addr → Prop) (sA sB : Shared) (HA : PHeap) (i : Nat), Grow H₁ HA → HA I = none → ¬ Mu'' I → (∀ a, Mu'' a → HA a = none) → (∀ a o, ¬ Mu'' a → sA.heap.get? a = some o → sB.heap.get? a = some o) → St i sA.heap → St i sB.heap := fun Mu'' sA sB HA i gr _ nI off kp st =>
      W.walks.frame _ _ _ st fun c hc o q => kp c o (fun z => by
        rcases W.foot c hc with y | ⟨o2, y⟩
        · exact nI (y ▸ z)
        · have := gr _ _ y; rw [off c z] at this; cases this) q
    have st5 : St (j + 1) s₅.heap := fr Mu' { sj with heap := h2, toks := tk } s₅ Hj (j + 1) stp.grow hHI nI bj.mid.off t₅.keep st'
    obtain ⟨o5, l5⟩ : ∃ o, s₅.heap.get? I = some o := ⟨_, t₅.keep I _ nI ho'⟩
    refine exList_soundA S R bd σ₁ _ _ Mu' s₅ Hj e ⟨b₅, bj.fresh⟩ ⟨fun fl f σ₂ Mu2 s₆ H₆ b₆ st6 mm e6 => ?_, fun v p σ₂ s₆ H₆ a6 hv6 e6 => N.ret v p σ₂ s₆ H₆ a6 hv6 e6⟩
    have again : forK (bindT sc t) (exList ex bd) (xs.drop (j + 1)) σ₂ k = some r → ∃ m, m < xs.length - j ∧ ∃ j' Mu' σ' Hj, m = xs.length - j' ∧ j' ≤ xs.length ∧ FB prog w h₁ Mu' sc env σ' s₀ H₀ s₆ Hj ∧ Step Mu s₁ H₁ Mu' s₆ Hj ∧ St j' s₆.heap ∧ ¬ Mu' I ∧ Hj I = none ∧ forK (bindT sc t) (exList ex bd) (xs.drop j') σ' k = some r := by
      intro e7
      refine ⟨xs.length - (j + 1), by omega, j + 1, Mu2, σ₂, H₆, rfl, hlt, b₆, stp5.trans st6, ?_, ?_, ?_, e7⟩
      · exact fr Mu' s₅ s₆ Hj (j + 1) stp.grow hHI nI bj.mid.off st6.keep st5
      · intro q
        rcases st6.new I q with z | z
        · exact nI z
        · rw [l5] at z; cases z
      · cases z : H₆ I with
        | none => rfl
        | some o =>
          rcases st6.fresh I o z with y | y
          · rw [hHI] at y; cases y
          · rw [l5] at y; cases y
    cases mm with
    | next => exact again e6
    | cnt => exact again e6
    | brk => exact N₁.go _ _ σ₂ Mu2 s₆ H₆ b₆ (stp5.trans st6) .next e6
  · have hje : j = xs.length := by omega
    subst hje
    refine W.walks.done sj _ _ stj fun h2 tk hk => ?_
    have hk' : ∀ c o, c ≠ I → sj.heap.get? c = some o → h2.get? c = some o := fun c o hc q => hk c o (fun z => hc (List.mem_singleton.mp z)) q
    rw [List.drop_length] at e
    exact wpAny_execs_nil (N₁.go _ _ σ' Mu' _ Hj ⟨bj.toBlk.other (t := tk) nI s0I hHI notCell hk', bj.fresh⟩ (stp.poke hI hk') .next e)
theorem x_for (EV : EvOk prog w h₁ n ev) (ok : EnvOk sc env) (S : SndX prog w h₁ n sc env s₀ H₀ ex) {t it : Expr} {bd : List Stmt} {pos : Pos} (hi : notSet it = true)
    (h : (ev.ev sc it (rdV σ) fun p => match itemsOf p with
    | some xs => gate (lenOk xs.length) (forK (bindT sc t) (exList ex bd) xs σ k)
    | none => none) = some r) (R : Room n A)
    (b : FB prog w h₁ Mu sc env σ s₀ H₀ s H) (N : NextS prog w h₁ sc env s₀ H₀ Mu s H k r Q) : wpAny (model prog w) A (exec (.For t it bd [] pos) env) Q E s :=
  x_forA EV ok (SndX.at S) hi h R b N

theorem x_try (S : SndX prog w h₁ n sc env s₀ H₀ ex) {bd : List Stmt} {h₀ : ExceptHandler} {hs : List ExceptHandler} {pos : Pos} (h : exList ex bd σ k = some r) (R : Room n A)
    (b : FB prog w h₁ Mu sc env σ s₀ H₀ s H) (N : NextS prog w h₁ sc env s₀ H₀ Mu s H k r Q) : wpAny (model prog w) A (exec (.Try bd (h₀ :: hs) [] [] pos) env) Q E s := by
  refine wpAny_Try_except (exList_sound S R bd σ k _ Mu s H h b ⟨fun fl f σ' Mu' s' H' b' st m e => ?_, fun v p σ' s' H' a hv e => N.ret v p σ' s' H' a hv e⟩)
  cases m with
  | next => exact wpAny_execs_nil (N.go _ _ σ' Mu' s' H' b' st .next e)
  | brk => exact N.go _ _ σ' Mu' s' H' b' st .brk e
  | cnt => exact N.go _ _ σ' Mu' s' H' b' st .cnt e

theorem exStep_sound (TO : TblOk prog w h₁ n T) (EV : EvOk prog w h₁ n ev) (ok : EnvOk sc env) (S : SndX prog w h₁ n sc env s₀ H₀ ex) (f : Nat) : SndX prog w h₁ n sc env s₀ H₀ (exStep (evStep T ev) sc f ex) := by
  have EV' : EvOk prog w h₁ n (evStep T ev) := fun _ _ _ ok => ⟨evStep_ev TO EV ok, evStep_tr TO EV ok⟩
  intro st σ k r A E Q Mu s H h R b N
  unfold exStep at h
  split at h
  · split at h
    · split at h
      · rename_i hl
        exact x_append EV' ok hl h R b N
      · exact x_expr EV' ok h R b N
    · exact x_expr EV' ok h R b N
  · exact wpAny_Pass (N.go _ _ σ Mu s H b .refl .next h)
  · exact wpAny_Break (N.go _ _ σ Mu s H b .refl .brk h)
  · exact x_ret EV' ok h R b N
  · exact wpAny_Return_none (N.ret .none .none σ s _ b.opened_after .none h)
  · rename_i x0 p0 e p1
    obtain ⟨hx, h⟩ := gate_some h
    split at h
    · exact x_newlist ok hx h b N
    · cases hc : notComp e && usesOwn σ 6 e with
      | true =>
        rw [hc] at h
        exact x_name_own EV' ok hx (and_split hc).1 h R b N
      | false =>
        rw [hc] at h
        by_cases hn : notComp e = true
        · exact x_name EV' ok hx hn h R b N
        · cases e with
          | ListComp elt gens csc cp => exact x_comp TO EV ok hx h R b N
          | SetComp a b c d => exact absurd (show (none : Option PV) = some r from h) (by intro q; cases q)
          | DictComp a b c d e => exact absurd (show (none : Option PV) = some r from h) (by intro q; cases q)
          | _ => exact absurd rfl hn
  · obtain ⟨gt, h⟩ := gate_some h
    obtain ⟨gt, g6⟩ := and_split gt
    obtain ⟨gt, g5⟩ := and_split gt
    obtain ⟨gt, g4⟩ := and_split gt
    obtain ⟨gt, g3⟩ := and_split gt
    obtain ⟨g1, g2⟩ := and_split gt
    have g3 : ∀ b : Bool, (!b) = true → b = false := by intro b; cases b <;> simp
    split at h
    · exact x_two_own EV' ok (of_decide_eq_true g6) g4 g5 g2 h R b N
    · rename_i g3' _ _ _
      exact x_two EV' ok (of_decide_eq_true g6) g4 g5 g1 g2 (g3 _ (by assumption)) h R b N
  · split at h
    · cases h
    · rename_i xs hx
      obtain ⟨gt, h⟩ := gate_some h
      obtain ⟨g1, g2⟩ := and_split gt
      exact x_unpack EV' ok hx g1 g2 h R b N
  · split at h
    · rename_i l hl
      obtain ⟨g1, h⟩ := gate_some h
      exact x_last EV' ok hl g1 h R b N
    · cases h
  · split at h
    · rename_i a ha
      obtain ⟨hx, h⟩ := gate_some h
      exact x_aug EV' ok ha hx h R b N
    · cases h
  · exact x_if EV' ok S h R b N
  · exact x_try S h R b N
  · exact x_while EV' ok S h R b N
  · obtain ⟨hi, h⟩ := gate_some h
    exact x_for EV' ok S hi h R b N
  · cases h
end Mine
end

/-! Run -/
section
open PySem PySem.W PyProof.Rows
set_option maxRecDepth 100000
namespace Mine
variable {prog : Program} {w : World} {h₁ : Heap} {n : Nat} {sc csc : Scope} {env : PySem.Env} {A : Around} {s₀ s s' s'' : Shared} {H₀ H H' H'' : PHeap} {r : PV} {Mu Mu' Mu'' : Addr → Prop} {σ σ' : Vars} {E : Value → Shared → Prop} {T : Tbl} {ev : Ev} {k : K} {Q : Value → Shared → Prop}

theorem exN_sound (TO : TblOk prog w h₁ n T) (ok : EnvOk sc env) (m f : Nat) : ∀ d, SndX prog w h₁ n sc env s₀ H₀ (exN T sc (m + 1) f d)
  | 0 => fun _ _ _ _ _ _ _ _ _ _ h => (by cases h)
  | d + 1 => exStep_sound TO (evN_sound TO m) ok (exN_sound TO ok m f d) f

theorem bindL_other {kd : Str → Option NameKind} : ∀ {l : List (Str × Value)} {m : Str → Option Value} {x : Str}, (∀ v, (x, v) ∉ l) → bindL kd l m x = m x
  | [], m, x, _ => rfl
  | (y, u) :: l, m, x, h => by
    unfold bindL
    rw [bindL_other fun v hv => h v (.tail _ hv)]
    split
    · by_cases c : x = y
      · exact absurd (.head _) (c ▸ h u)
      · exact if_neg c
    · rfl
theorem bindC_other {kd : Str → Option NameKind} : ∀ {l : List (Str × Value)} {m : Str → Option Value} {x : Str}, (∀ v, (x, v) ∉ l) → bindC kd l m x = m x
  | [], m, x, _ => rfl
  | (y, u) :: l, m, x, h => by
    unfold bindC
    rw [bindC_other fun v hv => h v (.tail _ hv)]
    split
    · rfl
    · by_cases c : x = y
      · exact absurd (.head _) (c ▸ h u)
      · exact if_neg c
theorem bindL_get {kd : Str → Option NameKind} : ∀ {l : List (Str × Value)} {m : Str → Option Value} {x : Str} {v : Value}, (l.map (·.1)).Nodup → (x, v) ∈ l → kd x = some .local → bindL kd l m x = some v
  | (y, u) :: l, m, x, v, hn, h, hk => by
    rw [List.map_cons, List.nodup_cons] at hn
    unfold bindL
    cases h with
    | head =>
      rw [if_pos hk, bindL_other fun v' hv => hn.1 (List.mem_map.mpr ⟨_, hv, rfl⟩)]
      simp
    | tail _ h => exact bindL_get hn.2 h hk
theorem bindC_get {kd : Str → Option NameKind} : ∀ {l : List (Str × Value)} {m : Str → Option Value} {x : Str} {v : Value}, (l.map (·.1)).Nodup → (x, v) ∈ l → kd x = some .cell → bindC kd l m x = some v
  | (y, u) :: l, m, x, v, hn, h, hk => by
    rw [List.map_cons, List.nodup_cons] at hn
    unfold bindC
    cases h with
    | head =>
      rw [if_neg (by rw [hk]; decide), bindC_other fun v' hv => hn.1 (List.mem_map.mpr ⟨_, hv, rfl⟩)]
      simp
    | tail _ h => exact bindC_get hn.2 h hk

def valsOf (l : List (Str × PV)) : Vars := l.map fun p => (p.1, .val p.2)
theorem repK_get : ∀ {vs : List (Str × Value)} {ps : List (Str × PV)} {x : Str} {p : PV}, RepK prog w H vs ps → lookV (valsOf ps) x = some (.val p) → ∃ v, (x, v) ∈ vs ∧ Rep prog w H v p
  | _, _, x, p, .nil, h => by cases h
  | _, _, x, p, .cons (n := y) (p := q) a r, h => by
    unfold valsOf at h
    simp only [List.map_cons, lookV] at h
    by_cases c : y = x
    · rw [decide_eq_true c] at h
      cases h
      subst c
      exact ⟨_, .head _, a⟩
    · rw [decide_eq_false c] at h
      obtain ⟨v, hv, hr⟩ := repK_get r h
      exact ⟨v, .tail _ hv, hr⟩
theorem valsOf_val : ∀ {ps : List (Str × PV)} {x : Str} {b : Bnd}, lookV (valsOf ps) x = some b → ∃ p, b = .val p
  | [], x, b, h => by cases h
  | (y, q) :: ps, x, b, h => by
    unfold valsOf at h
    simp only [List.map_cons, lookV] at h
    cases c : decide (y = x) with
    | true => rw [c] at h; cases h; exact ⟨q, rfl⟩
    | false => rw [c] at h; exact valsOf_val h
theorem repK_names : ∀ {vs : List (Str × Value)} {ps : List (Str × PV)}, RepK prog w H vs ps → vs.map (·.1) = ps.map (·.1)
  | _, _, .nil => rfl
  | _, _, .cons _ r => by rw [List.map_cons, List.map_cons, repK_names r]

theorem cellsFrom_has : ∀ {names : List (Str × NameKind)} {n : Nat} {acc : List (Str × Addr)} {x : Str}, (names.lookup x = some .cell ∨ (acc.lookup x).isSome = true) → ((cellsFrom n names acc).lookup x).isSome = true
  | [], n, acc, x, h => by
    rcases h with h | h
    · cases h
    · exact h
  | (y, k) :: r, n, acc, x, h => by
    unfold cellsFrom
    rw [List.lookup_cons] at h
    split
    · rename_i hk
      refine cellsFrom_has ?_
      cases q : x == y with
      | true => right; rw [List.lookup_cons, q]; rfl
      | false =>
        rw [q] at h
        rcases h with h | h
        · exact .inl h
        · right; rw [List.lookup_cons, q]; exact h
    · rename_i hk
      refine cellsFrom_has ?_
      cases q : x == y with
      | true =>
        rw [q] at h
        rcases h with h | h
        · cases h; exact absurd rfl hk
        · exact .inr h
      | false => rw [q] at h; exact h

/-- what a def's names must be like -/
def scOk (sc : Scope) (names : List Str) : Bool := names.all (stOk sc) && decide names.Nodup && decide (sc.kind = .function) && !sc.isCoroutine && !sc.isGenerator

theorem code_run (TO : TblOk prog w h₁ n T) {fa : Addr} {o : Obj} {fd : FuncData} {body : List Stmt} {args : Args} {binds : List (Str × Value)} {pb : List (Str × PV)} {p : PV} {R : Result → Shared → Prop}
    (ho : s.heap.get? fa = some o) (hd : o.data = .func fd) (hlim : s.heap.NoLimit) (hcd : s.heap.CodeRec fd.code fd.qualname) (hbody : fd.body = .stmts body) (hclo : fd.closure = []) (hglob : fd.globals = mainGlobals) (hblt : fd.builtins = builtinsNs)
    (hsc : scOk fd.scope (pb.map (·.1)) = true) (hb : BindsTo s fd args binds) (hr : RepK prog w H binds pb) (hrun : run T fd.scope body (valsOf pb) = some p) (Rm : Room (n + 1) A) (g : Base h₁ H s)
    (N : ∀ v s' H', After s H s' H' → Rep prog w H' v p → R (.ok (.ret v)) s') : codeAny (model prog w) A (.call (.ref fa) args) R s := by
  unfold scOk at hsc
  obtain ⟨hsc, h5⟩ := and_split hsc
  obtain ⟨hsc, h4⟩ := and_split hsc
  obtain ⟨hsc, h3⟩ := and_split hsc
  obtain ⟨h1, h2⟩ := and_split hsc
  have h1 := List.all_eq_true.mp h1
  have h2 := of_decide_eq_true h2
  have h3 := of_decide_eq_true h3
  have nms := repK_names hr
  have kinds : ∀ x ∈ binds, (stOk fd.scope x.1) = true := fun x hx => h1 _ (nms ▸ List.mem_map.mpr ⟨x, hx, rfl⟩)
  have kd : ∀ x, stOk fd.scope x = true → nameOk x ∧ (fd.scope.names.lookup x = some .local ∨ fd.scope.names.lookup x = some .cell) := by
    intro x h
    obtain ⟨ha, hb⟩ := and_split h
    obtain ⟨hb, hc⟩ := and_split hb
    refine ⟨⟨by simpa using hb, by simpa using hc⟩, ?_⟩
    split at ha
    · rename_i q; exact .inl q
    · rename_i q; exact .inr q
    · cases ha
  refine codeAny_call_function Rm.lim ho hd (by simpa using h4) (by simpa using h5) hbody hcd (hb _ _ _ _ ?_)
  rw [hclo]
  refine wpAny_newFunctionEnv_cells h3 (fun x hx => ?_) fun env he s₁ x => ?_
  · rcases (kd _ (kinds x hx)).2 with q | q
    · exact .inl q
    · exact .inr ⟨q, cellsFrom_has (.inl q)⟩
  subst he
  refine ⟨hlim.keeps x.toInCall.keep, codeAny_func ?_⟩
  generalize hEnv : newEnv fd.scope s.heap.objs.size fd.globals (cellsFrom (s.heap.objs.size + 1) fd.scope.names []) (fd.qualname ++ ".<locals>.") (some fa) fd.code none fd.builtins = env at x ⊢
  have hkind : ∀ y, env.kindOf y = fd.scope.names.lookup y := by intro y; rw [← hEnv]; rfl
  have ok : EnvOk fd.scope env := by
    refine ⟨⟨fun y e => (hkind y).trans e, fun y e => (hkind y).trans e⟩, fun y e => ?_, by rw [← hEnv]; exact h3, by rw [← hEnv]; exact hglob, by rw [← hEnv]; exact hblt, fun y e => (hkind y).trans e, fun y z c hy hz => ?_⟩
    · have : (env.cells.lookup y).isSome = true := by rw [← hEnv]; exact cellsFrom_has (.inl e)
      exact Option.isSome_iff_exists.mp this
    · exact name_of_addr x.apart (mem_of_lookup hy) (mem_of_lookup hz)
  have hL : s.heap.objs.size ≤ env.locals := x.toInCall.fresh
  have freshL : ∀ a, s.heap.objs.size ≤ a → s.heap.get? a = none := fun a ha => by
    cases q : s.heap.get? a with
    | none => rfl
    | some o' => exact absurd (Heap.lt_size q) (Nat.not_lt.mpr ha)
  let Mu : Addr → Prop := fun a => a = env.locals ∨ ∃ y c, env.cells.lookup y = some c ∧ a = c
  have MuF : ∀ a, Mu a → s.heap.get? a = none := by
    rintro a (rfl | ⟨y, c, hc, rfl⟩)
    · exact freshL _ hL
    · exact freshL _ (Nat.le_of_lt (Nat.lt_of_le_of_lt hL (x.above _ _ (mem_of_lookup hc))))
  have off : ∀ a, Mu a → H a = none := fun a ha => by
    cases q : H a with
    | none => rfl
    | some o => have := g.sub _ _ q; rw [MuF a ha] at this; cases this
  have same : Same s s₁ := by
    obtain ⟨h', tk, e⟩ := x.toInCall.same
    rw [e]; exact .upd _ _ _
  have fb : FB prog w h₁ Mu fd.scope env (valsOf pb) s H s₁ H := by
    refine ⟨⟨g, ⟨same, fun a o _ e => x.toInCall.keep a o e, fun a o e => x.toInCall.keep a o (g.sub a o e), fun _ _ e => e, fun _ _ e => .inl e, off, ?_⟩, ⟨.inl rfl, ⟨_, x.toInCall.ns⟩, fun y e => ?_, ok.inj⟩, ⟨fun y q e => ?_, fun y l e => ?_, fun y z l m a e => ?_⟩⟩, MuF⟩
    · rintro a (rfl | ⟨y, c, hc, rfl⟩)
      · obtain ⟨o, _, _, q, _⟩ := x.toInCall.ns; exact ⟨o, q⟩
      · obtain ⟨o, q, _⟩ := x.cell y _ hc; exact ⟨o, q⟩
    · obtain ⟨c, hc⟩ := ok.cells y e
      exact ⟨c, _, hc, .inr ⟨y, c, hc, rfl⟩, x.cell y c hc⟩
    · obtain ⟨v, hv, hrep⟩ := repK_get hr e
      obtain ⟨nk, hk⟩ := kd y (kinds _ hv)
      refine ⟨v, ⟨nk, ?_⟩, hrep⟩
      rcases hk with hk | hk
      · exact .inl ⟨(hkind y).trans hk, _, x.toInCall.ns, bindL_get (by rw [nms]; exact h2) hv ((hkind y).trans hk)⟩
      · obtain ⟨c, hc⟩ := ok.cells y hk
        have cc := x.cell y c hc
        rw [bindC_get (by rw [nms]; exact h2) hv ((hkind y).trans hk)] at cc
        exact .inr ⟨.inl ((hkind y).trans hk), c, hc, cc⟩
    · obtain ⟨p, hp⟩ := valsOf_val e; cases hp
    · obtain ⟨p, hp⟩ := valsOf_val e; cases hp
  refine exList_sound (exN_sound TO ok 15 4000 8) (Rm.deeper env) body (valsOf pb) _ _ Mu s₁ H hrun fb ⟨fun fl f σ' Mu' s' H' b' st m e => ?_, fun v q σ' s' H' a hv e => ?_⟩
  · cases m with
    | next => cases e; exact N _ s' H' b'.finish .none
    | brk => cases e
    | cnt => cases e
  · cases e; exact N v s' H' a hv

theorem run_call (TO : TblOk prog w h₁ n T) {fa : Addr} {o : Obj} {fd : FuncData} {body : List Stmt} {vals : List Value} {kws : List (Str × Value)} {binds : List (Str × Value)} {pb : List (Str × PV)} {p : PV}
    (ho : h₁.get? fa = some o) (hd : o.data = .func fd) (hlim : h₁.NoLimit) (hcd : h₁.CodeRec fd.code fd.qualname) (hbody : fd.body = .stmts body) (hclo : fd.closure = []) (hglob : fd.globals = mainGlobals) (hblt : fd.builtins = builtinsNs)
    (hsc : scOk fd.scope (pb.map (·.1)) = true) (hb : BindsTo s fd ⟨vals, kws⟩ binds) (hr : RepK prog w H binds pb) (hrun : run T fd.scope body (valsOf pb) = some p) (Rm : Room (n + 1) A) (g : Base h₁ H s)
    (e : k p = some r) (N : Next prog w s H k r Q) : wpAny (model prog w) A (call (.ref fa) vals kws) Q E s :=
  wpAny_call (code_run TO (g.keep _ _ ho) hd (hlim.keeps g.keep) (hcd.keeps g.keep) hbody hclo hglob hblt hsc hb hr hrun Rm g fun v s' H' a hv => N v p s' H' a hv e)
end Mine
end

/-! Bi -/
section
open PySem PySem.W PyProof.Rows
set_option maxRecDepth 100000
namespace Mine
variable {prog : Program} {w : World} {h₁ : Heap} {n : Nat} {A : Around} {s s' : Shared} {H H' : PHeap} {r : PV} {E : Value → Shared → Prop} {k : K} {Q : Value → Shared → Prop}

def noRef : Value → Bool
  | .ref _ => false
  | _ => true
theorem keeper_plain {f : Value} (hf : noRef f = true) (h : Heap) : KeeperOk h f := fun M => ⟨.machine, .inr (.inl rfl), Looks.of_pure (by cases f <;> first | rfl | cases hf)⟩

theorem fun_plain {f : Value} {φ : Fun} (hf : noRef f = true)
    (hc : ∀ (A : Around) (E Q : Value → Shared → Prop) (s : Shared) (H : PHeap) (args : List Value) (kws : List (Str × Value)) (ps : List PV) (ks : List (Str × PV)) (k : K) (r : PV),
      Room n A → SubH H s.heap → RepL prog w H args ps → RepK prog w H kws ks → φ ps ks k = some r → Next prog w s H k r Q → wpAny (model prog w) A (call f args kws) Q E s) : FunOk prog w h₁ n f φ :=
  ⟨fun h _ => keeper_plain hf h, fun A E Q s H args kws ps ks k r R g ha hk e N => hc A E Q s H args kws ps ks k r R g.sub ha hk e N⟩
theorem meth_plain {name : Str} {id : String} {p : PV} {φ : Fun}
    (hm : ∀ (A : Around) (E : Value → Shared → Prop) (Q : Value × List Value → Shared → Prop) (pl : Sem Bool) (s : Shared) (H : PHeap) (v : Value), SubH H s.heap → Rep prog w H v p → Q (.builtin id, [v]) s → wpAny (model prog w) A (getMethod v name pl) Q E s)
    (hc : ∀ (A : Around) (E Q : Value → Shared → Prop) (s : Shared) (H : PHeap) (v : Value) (args : List Value) (kws : List (Str × Value)) (ps : List PV) (ks : List (Str × PV)) (k : K) (r : PV),
      Room n A → SubH H s.heap → Rep prog w H v p → RepL prog w H args ps → RepK prog w H kws ks → φ ps ks k = some r → Next prog w s H k r Q → wpAny (model prog w) A (call (.builtin id) (v :: args) kws) Q E s) : MethOk prog w h₁ n name p φ := by
  intro A E Q pl s H v R g hv hq
  refine hm A E Q pl s H v g.sub hv (hq _ _ s H (.refl g.sub) (fun h _ => keeper_plain rfl h) ?_)
  intro A' E' Q' s' H' args kws ps ks k r R' g' a ha hk e N
  exact hc A' E' Q' s' H' v args kws ps ks k r R' g'.sub (hv.mono a.grow) ha hk e N

/-! len, bytes, str, range, abs, sum -/
def lenF : Fun := fun as ks k => match as, ks with
  | [.bytes b], [] => gate (lenOk b.length) (k (.int b.length))
  | _, _ => none
theorem len_ok : FunOk prog w h₁ n (.builtin "len") lenF := by
  refine fun_plain rfl fun A E Q s H args kws ps ks k r R hs ha hk e N => ?_
  unfold lenF at e
  split at e
  · obtain ⟨g, e⟩ := gate_some e
    have g := lenOk_le g
    cases hk
    cases ha with
    | cons hv ht =>
      cases ht
      cases hv
      refine PySem.W.len_bytes (by simp; omega) ?_
      have := next_flat hs N (.int _ (s.toks + 1)) e (t := s.toks + 1 + 1)
      simpa using this
  · cases e
def toInts : List PV → Option (List Int)
  | [] => some []
  | .int i :: l => match toInts l with | some r => some (i :: r) | none => none
  | _ => none
theorem toInts_rep : ∀ {vs : List Value} {ps : List PV} {ns : List Int}, RepL prog w H vs ps → toInts ps = some ns → IntsAre vs ns
  | _, _, _, .nil, e => by simp only [toInts, Option.some.injEq] at e; subst e; exact .nil
  | _, _, _, .cons hv ht, e => by
    cases hv with
    | int i t =>
      simp only [toInts] at e
      split at e
      · rename_i r hr
        cases e
        exact .cons _ _ (toInts_rep ht hr)
      · cases e
    | _ => simp [toInts] at e
def u8 (i : Int) : UInt8 := i.toNat.toUInt8
def inB (i : Int) : Bool := decide (0 ≤ i) && decide (i < 256)
def bytesF : Fun := fun as ks k => match as, ks with
  | [.lst l], [] => match toInts l with
    | some is => gate (is.all inB && lenOk is.length) (k (.bytes (is.map u8)))
    | none => none
  | _, _ => none
theorem bytes_ok : FunOk prog w h₁ n (.type "bytes") bytesF := by
  refine fun_plain rfl fun A E Q s H args kws ps ks k r R hs ha hk e N => ?_
  unfold bytesF at e
  split at e
  · split at e
    · rename_i is hi
      obtain ⟨g, e⟩ := gate_some e
      obtain ⟨g1, g2⟩ := and_split g
      have g2 := lenOk_le g2
      cases hk
      cases ha with
      | cons hv ht =>
        cases ht
        cases hv with
        | lst h1 h2 h3 h4 =>
          have ia := toInts_rep h4 hi
          refine call_bytes_ints (repL_isList hs h1 h2 h3) ia (fun m hm => ?_) (by rw [ia.length, sizeLine_eq]; omega) R.handled fun h' t k' hk' => ?_
          · have := List.all_eq_true.mp g1 m hm
            obtain ⟨a, b⟩ := and_split this
            exact ⟨of_decide_eq_true a, of_decide_eq_true b⟩
          · exact N _ _ _ H (.upd hs hk') (.bytes _ _) e
    · cases e
  · cases e
def strF : Fun := fun as ks k => match as, ks with
  | [.int i], [] => gate (small i) (k (.str (Str.ofString (toString i))))
  | _, _ => none
theorem str_ok : FunOk prog w h₁ n (.type "str") strF := by
  refine fun_plain rfl fun A E Q s H args kws ps ks k r R hs ha hk e N => ?_
  unfold strF at e
  split at e
  · obtain ⟨g, e⟩ := gate_some e
    cases hk
    cases ha with
    | cons hv ht =>
      cases ht
      cases hv
      exact P.str_of_int (log2_small (small_lt g)) (next_flat hs N (.str _ _) e)
  · cases e
def rangeF : Fun := fun as ks k => match as, ks with
  | [.int i], [] => gate (decide (0 ≤ i)) (k (.rng i.toNat))
  | _, _ => none
theorem range_ok : FunOk prog w h₁ n (.type "range") rangeF := by
  refine fun_plain rfl fun A E Q s H args kws ps ks k r R hs ha hk e N => ?_
  unfold rangeF at e
  split at e
  · rename_i i
    obtain ⟨g, e⟩ := gate_some e
    have g := of_decide_eq_true g
    cases hk
    cases ha with
    | cons hv ht =>
      cases ht
      cases hv with
      | int _ t =>
        refine call_range_1 ?_
        have nw := After.new (s := s) (H := H) (t := s.toks + 1 + 1) hs (.push _ _) (get_size_none _) (Heap.get?_push_size (h := s.heap) (o := { cls := .type "range", data := .fields #[.int 0 s.toks, .int i t, .int 1 (s.toks + 1)] }) rfl)
        refine N _ _ _ _ nw (.rng (t := s.toks) (u := t) (v := s.toks + 1) (withObj_self _ _ _) fun h e => ?_) e
        show h.get? _ = _
        rw [Int.toNat_of_nonneg g]
        exact e
  · cases e
def absF : Fun := fun as ks k => match as, ks with
  | [.int i], [] => k (.int (bif decide (i < 0) then -i else i))
  | _, _ => none
theorem abs_ok : FunOk prog w h₁ n (.builtin "abs") absF := by
  refine fun_plain rfl fun A E Q s H args kws ps ks k r R hs ha hk e N => ?_
  unfold absF at e
  split at e
  · rename_i i
    cases hk
    cases ha with
    | cons hv ht =>
      cases ht
      cases hv with
      | int _ t =>
        refine call_abs_int fun u tk => ?_
        have : (if i < 0 then -i else i) = bif decide (i < 0) then -i else i := by by_cases h : i < 0 <;> simp [h]
        rw [this]
        exact next_flat hs N (.int _ _) e
  · cases e
def sumL : List Int → Int := fun l => l.foldl (· + ·) 0
def sumF : Fun := fun as ks k => match as, ks with
  | [.lst l], [] => match toInts l with
    | some is => k (.int (sumL is))
    | none => none
  | _, _ => none
theorem ints_items : ∀ {vs : List Value} {ns : List Int}, IntsAre vs ns → ∃ xs : List (Int × Tok), vs = xs.map (fun p => .int p.1 p.2) ∧ xs.map (·.1) = ns
  | _, _, .nil => ⟨[], rfl, rfl⟩
  | _, _, .cons n t h => by
    obtain ⟨xs, h1, h2⟩ := ints_items h
    exact ⟨(n, t) :: xs, by rw [h1]; rfl, by rw [← h2]; rfl⟩
theorem pre_sum (xs : List (Int × Tok)) : ∀ j, preSum (numAt xs.toArray) j = sumL ((xs.map (·.1)).take j)
  | 0 => rfl
  | j + 1 => by
    have ih := pre_sum xs j
    show preSum (numAt xs.toArray) j + numAt xs.toArray j = _
    rw [ih, List.take_add_one]
    unfold sumL
    rw [List.foldl_append]
    unfold numAt
    rw [List.getElem?_toArray, List.getElem?_map]
    cases xs[j]? with
    | none => simp
    | some x => simp
theorem sum_ok : FunOk prog w h₁ n (.builtin "sum") sumF := by
  refine fun_plain rfl fun A E Q s H args kws ps ks k r R hs ha hk e N => ?_
  unfold sumF at e
  split at e
  · split at e
    · rename_i is hi
      cases hk
      cases ha with
      | cons hv ht =>
        cases ht
        cases hv with
        | lst h1 h2 h3 h4 =>
          obtain ⟨xs, q1, q2⟩ := ints_items (toInts_rep h4 hi)
          have hl := repL_isList hs h1 h2 h3
          rw [q1] at hl
          have hl2 := hl
          rw [show (List.map (fun p => Value.int p.1 p.2) xs).toArray = intItems xs.toArray by unfold intItems; simp] at hl2
          refine sum_intListG R.handled hl2 fun h' tk t' hk' => ?_
          have z := pre_sum xs xs.length
          rw [← List.length_map (f := (·.1)), List.take_length, q2] at z
          have z2 : preSum (numAt xs.toArray) xs.toArray.size = sumL is := by rw [← z, ← q2]; simp
          rw [z2]
          exact N _ _ _ H (.upd hs hk') (.int _ _) e
    · cases e
  · cases e
end Mine
end

/-! Bi2 -/
section
open PySem PySem.W PyProof.Rows
set_option maxRecDepth 100000
namespace Mine
variable {prog : Program} {w : World} {h₁ : Heap} {n : Nat} {A : Around} {s s' : Shared} {H H' : PHeap} {r : PV} {E : Value → Shared → Prop} {k : K} {Q : Value → Shared → Prop}

def knd : PV → String
  | .int _ => "int"
  | .bool _ => "bool"
  | .str _ => "str"
  | .bytes _ => "bytes"
  | .lst _ => "list"
  | _ => ""
def clss : List String := ["int", "bool", "str", "bytes", "bytearray", "memoryview", "list", "tuple"]
def knds : List String := ["int", "bool", "str", "bytes", "list"]
def subT (K T : String) : Bool := decide (K = T) || (decide (K = "bool") && decide (T = "int"))
theorem cls_meta : ∀ T ∈ clss, typeOf (.type T) = pure (.type "type") := by
  intro T h
  simp only [clss, List.mem_cons, List.not_mem_nil, or_false] at h
  rcases h with rfl | rfl | rfl | rfl | rfl | rfl | rfl | rfl <;> kernel_rfl
theorem cls_sub : ∀ K ∈ knds, ∀ T ∈ clss, isSubtype (.type K) (.type T) = pure (subT K T) := by
  intro K hK T h
  simp only [knds, List.mem_cons, List.not_mem_nil, or_false] at hK
  simp only [clss, List.mem_cons, List.not_mem_nil, or_false] at h
  rcases hK with rfl | rfl | rfl | rfl | rfl <;> rcases h with rfl | rfl | rfl | rfl | rfl | rfl | rfl | rfl <;> (rw [isSubtype_type]; kernel_rfl)
theorem Answers.of_false_bytes {b : Array UInt8} {u : Tok} {T : String} (hne : (Value.type "bytes" == Value.type T) = false) (hty : typeOf (.type T) = pure (.type "type")) (hsub : isSubtype (.type "bytes") (.type T) = pure false) :
    Answers (fun s => s.TypeIs (.bytes b u) "bytes") (.bytes b u) (.type T) false :=
  fun _ _ _ _ _ _ s hs => by
    obtain ⟨h, g, d, t, os⟩ := s
    exact isinstance_nested_false_bytes hne hty hsub (hs.2 (t + 1))
theorem rep_type {v : Value} {p : PV} (hs : SubH H s.heap) (hv : Rep prog w H v p) (hk : knd p ∈ knds) : s.TypeIs v (knd p) := by
  cases hv with
  | int i t => exact typeIs_int s i t
  | bool b => exact rfl
  | str x t => exact typeIs_str s x t
  | bytes b t => exact PySem.W.typeIs_bytes s _ _
  | lst h1 h2 h3 h4 => exact (repL_isList hs h1 h2 h3).typeIs
  | _ => exact absurd hk (by show ¬ ("" ∈ knds); decide)
theorem rep_answers {v : Value} {p : PV} {T : String} (hv : Rep prog w H v p) (hk : knd p ∈ knds) (hT : T ∈ clss) : Answers (fun s => s.TypeIs v (knd p)) v (.type T) (subT (knd p) T) := by
  have sub := cls_sub _ hk _ hT
  cases h : subT (knd p) T with
  | true => rw [h] at sub; exact .of_true (cls_meta T hT) sub
  | false =>
    rw [h] at sub
    have hne : (Value.type (knd p) == Value.type T) = false := by
      rw [beq_eq_false_iff_ne]
      intro q
      cases q
      simp [subT] at h
    cases hv with
    | int i t => exact .of_false_int hne (cls_meta T hT) sub
    | bool b => exact .of_false_bool hne (cls_meta T hT) sub
    | str x t => exact .of_false_str hne (cls_meta T hT) sub
    | bytes b t => exact Answers.of_false_bytes hne (cls_meta T hT) sub
    | lst h1 h2 h3 h4 => exact .of_false_list hne (cls_meta T hT) sub
    | _ => exact absurd hk (by show ¬ ("" ∈ knds); decide)
/-- classes as values -/
def clsOf : PV → Option String
  | .raw (.type T) => bif decide (T ∈ clss) then some T else none
  | _ => none
def clsL : List PV → Option (List String)
  | [] => some []
  | p :: l => match clsOf p with
    | some T => match clsL l with
      | some r => some (T :: r)
      | none => none
    | none => none
theorem clsOf_rep {v : Value} {p : PV} {T : String} (hv : Rep prog w H v p) (e : clsOf p = some T) : v = .type T ∧ T ∈ clss := by
  unfold clsOf at e
  split at e
  · rename_i T'
    cases hv
    cases q : decide (T' ∈ clss) with
    | true => rw [q] at e; cases e; exact ⟨rfl, of_decide_eq_true q⟩
    | false => rw [q] at e; cases e
  · cases e
theorem clsL_all {x : Value} {p : PV} (hx : Rep prog w H x p) (hk : knd p ∈ knds) : ∀ {vs : List Value} {ps : List PV} {Ts : List String}, RepL prog w H vs ps → clsL ps = some Ts →
    AnswersAll (fun s => s.TypeIs x (knd p)) x vs (Ts.map (subT (knd p)))
  | _, _, _, .nil, e => by simp only [clsL, Option.some.injEq] at e; subst e; trivial
  | _, _, _, .cons hv ht, e => by
    simp only [clsL] at e
    split at e
    · rename_i T hT
      split at e
      · rename_i rr hr
        cases e
        obtain ⟨rfl, hm⟩ := clsOf_rep hv hT
        exact ⟨rep_answers hx hk hm, clsL_all hx hk ht hr⟩
      · cases e
    · cases e
def isiF : Fun := fun as ks k => match as, ks with
  | [p, c], [] => gate (decide (knd p ∈ knds)) (match c with
    | .tup l => match clsL l with
      | some Ts => k (.bool ((Ts.map (subT (knd p))).any id))
      | none => none
    | c => match clsOf c with
      | some T => k (.bool (subT (knd p) T))
      | none => none)
  | _, _ => none
theorem isi_one {x : Value} {P : Shared → Prop} {T : String} {v : Bool} (a : Answers P x (.type T) v) (hx : x ≠ .builtin "__main__.__loader__#opaque") :
    Meets (Builtin.«isinstance» ⟨[x, .type T], []⟩) (fun _ R s => P s ∧ ∀ tk, R (.ok (.ret (.bool v))) { s with toks := tk }) :=
  fun prog w A R s hs => isinstance_outer (a 0 _ prog w A R s hs) hx
theorem isi_ok : FunOk prog w h₁ n (.builtin "isinstance") isiF := by
  refine fun_plain rfl fun A E Q s H args kws ps ks k r R hs ha hk e N => ?_
  unfold isiF at e
  split at e
  · rename_i p c
    obtain ⟨g, e⟩ := gate_some e
    have g := of_decide_eq_true g
    cases hk
    cases ha with
    | cons hv ht =>
      cases ht with
      | cons hc ht =>
        cases ht
        have hT := rep_type hs hv g
        split at e
        · split at e
          · rename_i Ts hTs
            cases hc with
            | tup h1 h2 h3 h4 =>
              refine call_isinstance (isinstance_tuple (clsL_all hv g h4 hTs)) ⟨hT, ?_, fun tk => next_flat hs N (.bool _) e⟩
              have := hs _ _ h1
              rw [h2.2] at this
              exact this
          · cases e
        · split at e
          · rename_i T hcT
            obtain ⟨rfl, hm⟩ := clsOf_rep hc hcT
            exact call_isinstance (isi_one (rep_answers hv g hm) (Shared.TypeIs.not_mainsLoader hT)) ⟨hT, fun tk => next_flat hs N (.bool _) e⟩
          · cases e
  · cases e
end Mine
end

/-! Bi3 -/
section
open PySem PySem.W PyProof.Rows
set_option maxRecDepth 100000
namespace Mine
variable {prog : Program} {w : World} {h₁ : Heap} {n : Nat} {A : Around} {s s' : Shared} {H H' : PHeap} {r : PV} {E : Value → Shared → Prop} {k : K} {Q : Value → Shared → Prop}

/-! hex -/
def hexD (n : Nat) : Nat := bif decide (n < 10) then 48 + n else 87 + n
def hexL : List UInt8 → List Nat
  | [] => []
  | c :: l => hexD (c.toNat / 16) :: hexD (c.toNat % 16) :: hexL l
theorem hexL_len : ∀ b : List UInt8, (hexL b).length = 2 * b.length
  | [] => rfl
  | _ :: b => by simp [hexL, hexL_len b]; omega
def hexS (b : List UInt8) : Str := ⟨(hexL b).toArray⟩
theorem hexD_eq (n : Nat) : Builtin.Bytes.hexDigit n = hexD n := by
  unfold Builtin.Bytes.hexDigit hexD
  by_cases h : n < 10 <;> simp [h]
theorem hex_fold : ∀ (b : List UInt8) (i : Nat) (out : Array Nat),
    ((b.zipIdx i).foldl (fun (out : Array Nat) (ci : UInt8 × Nat) => (out.push (Builtin.Bytes.hexDigit (ci.1.toNat / 16))).push (Builtin.Bytes.hexDigit (ci.1.toNat % 16))) out) = out ++ (hexL b).toArray
  | [], i, out => by simp [hexL]
  | c :: b, i, out => by
    rw [List.zipIdx_cons, List.foldl_cons, hex_fold b (i + 1), hexD_eq, hexD_eq]
    simp [hexL]
theorem gives_bytes_hex (b : List UInt8) (t : Tok) : Gives (Builtin.«bytes.hex» ⟨[.bytes b.toArray t], []⟩) (.str (hexS b)) := by
  have e : (⟨(b.toArray.toList.zipIdx.foldl (fun (out : Array Nat) (ci : UInt8 × Nat) => (out.push (Builtin.Bytes.hexDigit (ci.1.toNat / 16))).push (Builtin.Bytes.hexDigit (ci.1.toNat % 16))) #[])⟩ : Str) = hexS b := by
    rw [show b.toArray.toList = b from rfl, hex_fold]; simp [hexS]
  rw [← e]
  exact .of_eq rfl
theorem meth_bytes {id : String} {name : Str} {p : PV} (hk : knd p = "bytes") (slot : Slot "bytes" name id) (hty : typeOf (.builtin id) = pure (.type "method_descriptor")) (A : Around) (E : Value → Shared → Prop) (Q : Value × List Value → Shared → Prop) (pl : Sem Bool) (s : Shared) (H : PHeap) (v : Value)
    (hs : SubH H s.heap) (hv : Rep prog w H v p) (h : Q (.builtin id, [v]) s) : wpAny (model prog w) A (getMethod v name pl) Q E s := by
  refine getMethod_builtin (T := "bytes") (hk ▸ rep_type hs hv (by rw [hk]; decide)) PySem.W.FB.plainAttrs_bytes slot hty (fun a e => ?_) h
  subst e
  cases hv <;> first | exact absurd (show ("" : String) = _ from hk) (by decide) | exact absurd (show ("list" : String) = _ from hk) (by decide)
theorem meth_str {id : String} {name : Str} {p : PV} (hk : knd p = "str") (slot : Slot "str" name id) (hty : typeOf (.builtin id) = pure (.type "method_descriptor")) (A : Around) (E : Value → Shared → Prop) (Q : Value × List Value → Shared → Prop) (pl : Sem Bool) (s : Shared) (H : PHeap) (v : Value)
    (hs : SubH H s.heap) (hv : Rep prog w H v p) (h : Q (.builtin id, [v]) s) : wpAny (model prog w) A (getMethod v name pl) Q E s := by
  refine getMethod_builtin (T := "str") (hk ▸ rep_type hs hv (by rw [hk]; decide)) F.plainAttrs_str slot hty (fun a e => ?_) h
  subst e
  cases hv <;> first | exact absurd (show ("" : String) = _ from hk) (by decide) | exact absurd (show ("list" : String) = _ from hk) (by decide)
theorem meth_int {id : String} {name : Str} {p : PV} (hk : knd p = "int") (slot : Slot "int" name id) (hty : typeOf (.builtin id) = pure (.type "method_descriptor")) (A : Around) (E : Value → Shared → Prop) (Q : Value × List Value → Shared → Prop) (pl : Sem Bool) (s : Shared) (H : PHeap) (v : Value)
    (hs : SubH H s.heap) (hv : Rep prog w H v p) (h : Q (.builtin id, [v]) s) : wpAny (model prog w) A (getMethod v name pl) Q E s := by
  refine getMethod_builtin (T := "int") (hk ▸ rep_type hs hv (by rw [hk]; decide)) F.plainAttrs_int slot hty (fun a e => ?_) h
  subst e
  cases hv <;> first | exact absurd (show ("" : String) = _ from hk) (by decide) | exact absurd (show ("list" : String) = _ from hk) (by decide)
def hexF (b : List UInt8) : Fun := fun as ks k => match as, ks with
  | [], [] => gate (lenOk b.length) (k (.str (hexS b)))
  | _, _ => none
theorem hex_ok (b : List UInt8) : MethOk prog w h₁ n (Str.ofString "hex") (.bytes b) (hexF b) := by
  refine meth_plain (meth_bytes rfl PySem.W.FB.slot_bytes_hex PySem.W.FB.type_bytes_hex) fun A E Q s H v args kws ps ks k r R hs hv ha hk e N => ?_
  unfold hexF at e
  split at e
  · obtain ⟨g, e⟩ := gate_some e
    have g := lenOk_le g
    cases hk
    cases ha
    cases hv
    exact call_gives PySem.W.FB.slot_bytes_hex (PySem.W.typeIs_bytes s _ _) PySem.W.FB.entry_bytes_hex (PySem.W.FB.args_bytes_hex_1 _) (gives_bytes_hex b _) ⟨by have := hexL_len b; show (hexL b).toArray.size ≤ _; rw [sizeLine_eq]; simp; omega, next_flat hs N (.str _ _) e⟩
  · cases e

/-! upper, isascii, strip of a text -/
def upS (x : Str) : Str := PySem.Txt.upper x
def upF (x : Str) : Fun := fun as ks k => match as, ks with
  | [], [] => gate (decide (x.length ≤ 5592405)) (k (.str (upS x)))
  | _, _ => none
theorem up_ok (x : Str) : MethOk prog w h₁ n (Str.ofString "upper") (.str x) (upF x) := by
  refine meth_plain (meth_str rfl F.slot_str_upper F.type_str_upper) fun A E Q s H v args kws ps ks k r R hs hv ha hk e N => ?_
  unfold upF at e
  split at e
  · obtain ⟨g, e⟩ := gate_some e
    cases hk
    cases ha
    cases hv
    exact PyProof.Rows.SCL.upper (of_decide_eq_true g) fun _ => next_flat hs N (.str _ _) e
  · cases e
def asciiB (x : Str) : Bool := x.cps.all fun c => decide (c < 128)
def asciiF (x : Str) : Fun := fun as ks k => match as, ks with
  | [], [] => k (.bool (asciiB x))
  | _, _ => none
theorem ascii_ok (x : Str) : MethOk prog w h₁ n (Str.ofString "isascii") (.str x) (asciiF x) := by
  refine meth_plain (meth_str rfl F.slot_str_isascii F.type_str_isascii) fun A E Q s H v args kws ps ks k r R hs hv ha hk e N => ?_
  unfold asciiF at e
  split at e
  · cases hk
    cases ha
    cases hv
    exact call_gives F.slot_str_isascii (typeIs_str s _ _) F.entry_str_isascii (F.args_str_isascii_1 _) (gives_str_isascii x _) (next_flat hs N (.bool _) e)
  · cases e
/-- the blanks around a text go -/
def stripS (y x : Str) : Str := bif PySem.stripSame y.cps.contains true true x then x else PySem.stripped y.cps.contains true true x
def stripF (x : Str) : Fun := fun as ks k => match as, ks with
  | [.str y], [] => gate (lenOk (stripS y x).length) (k (.str (stripS y x)))
  | _, _ => none
theorem strip_ok (x : Str) : MethOk prog w h₁ n (Str.ofString "strip") (.str x) (stripF x) := by
  refine meth_plain (meth_str rfl F.slot_str_strip F.type_str_strip) fun A E Q s H v args kws ps ks k r R hs hv ha hk e N => ?_
  unfold stripF at e
  split at e
  · rename_i y
    cases hk
    cases ha with
    | cons hy ht =>
      cases ht
      cases hy
      cases hv
      refine call_gives F.slot_str_strip (typeIs_str s _ _) F.entry_str_strip (F.args_str_strip_2 _ _) (gives_str_strip_chars x y _ _) ?_
      obtain ⟨g, e⟩ := gate_some e
      have g := lenOk_le g
      unfold stripS at e g
      cases q : PySem.stripSame y.cps.contains true true x with
      | true =>
        rw [q] at e
        exact N _ _ s H (.refl hs) (.str _ _) e
      | false =>
        rw [q] at e g
        exact ⟨by rw [sizeLine_eq]; exact Nat.le_trans g (by decide), next_flat hs N (.str _ _) e⟩
  · cases e
end Mine
end

/-! Bi4 -/
section
open PySem PySem.W PyProof.Rows
set_option maxRecDepth 100000
namespace Mine
variable {prog : Program} {w : World} {h₁ : Heap} {n : Nat} {A : Around} {s s' : Shared} {H H' : PHeap} {r : PV} {E : Value → Shared → Prop} {k : K} {Q : Value → Shared → Prop}

/-! numbers of octets, the least first -/
def leN : Nat → Nat → List UInt8
  | 0, _ => []
  | n + 1, x => (x % 256).toUInt8 :: leN n (x / 256)
def leV : List UInt8 → Nat
  | [] => 0
  | c :: l => c.toNat + 256 * leV l
theorem leN_len : ∀ n x, (leN n x).length = n
  | 0, _ => rfl
  | n + 1, x => by simp [leN, leN_len n]
theorem leN_ints : ∀ n x, (leN n x).map (fun c : UInt8 => ((c.toNat : Nat) : Int)) = KTBy.little n (x : Int)
  | 0, _ => rfl
  | n + 1, x => by
    show ((((x % 256).toUInt8).toNat : Nat) : Int) :: (leN n (x / 256)).map _ = (x : Int) % 256 :: KTBy.little n ((x : Int) / 256)
    rw [leN_ints n (x / 256)]
    have : (((x % 256).toUInt8).toNat : Nat) = x % 256 := by
      show (UInt8.ofNat (x % 256)).toNat = x % 256
      rw [UInt8.toNat_ofNat']; omega
    rw [this]
    rfl
theorem toNat_inj : ∀ {a b : List UInt8}, a.map (fun c : UInt8 => ((c.toNat : Nat) : Int)) = b.map (fun c : UInt8 => ((c.toNat : Nat) : Int)) → a = b
  | [], [], _ => rfl
  | [], _ :: _, h => by simp at h
  | _ :: _, [], h => by simp at h
  | x :: a, y :: b, h => by
    simp only [List.map_cons, List.cons.injEq] at h
    obtain ⟨h1, h2⟩ := h
    have : x = y := UInt8.toNat_inj.mp (by omega)
    rw [this, toNat_inj h2]
theorem low_leN {x : Nat} {n : Nat} (h : x < 256 ^ n) : KTBy.low (x : Int) n = leN n x := by
  refine toNat_inj ?_
  rw [leN_ints, KTBy.low_ints (by omega) (by
    have := Int.ofNat_lt.mpr h
    rw [KTBy.p256]; exact this), KTBy.little_eq]
theorem leV_fold : ∀ (l : List UInt8) , l.reverse.foldl (fun (acc : Nat) (b : UInt8) => acc * 256 + b.toNat) 0 = leV l
  | [] => rfl
  | c :: l => by
    rw [List.reverse_cons, List.foldl_append, leV_fold l]
    simp only [List.foldl_cons, List.foldl_nil, leV]
    omega

def bitF (i : Int) : Fun := fun as ks k => match as, ks with
  | [], [] => k (.int (Builtin.Int.intBits i))
  | _, _ => none
theorem bit_ok (i : Int) : MethOk prog w h₁ n (Str.ofString "bit_length") (.int i) (bitF i) := by
  refine meth_plain (id := "int.bit_length") (fun A E Q pl s H v hs hv h => ?_) fun A E Q s H v args kws ps ks k r R hs hv ha hk e N => ?_
  · cases hv
    exact getMethod_int_bit_length h
  · unfold bitF at e
    split at e
    · cases hk
      cases ha
      cases hv
      exact call_int_bit_length (next_flat hs N (.int _ _) e)
    · cases e

def sLit : Str := Str.ofString "little"
def sOrd : Str := Str.ofString "byteorder"
def sSig : Str := Str.ofString "signed"
def tobF (x : Int) : Fun := fun as ks k => match as, ks with
  | [.int m], [(n1, .str o), (n2, .bool false)] => gate (decide (n1 = sOrd) && decide (n2 = sSig) && decide (o = sLit) && decide (0 ≤ m) && decide (m ≤ 1000) && decide (0 ≤ x) && decide (x.toNat < 256 ^ m.toNat)) (k (.bytes (leN m.toNat x.toNat)))
  | _, _ => none
theorem args_tob (a b c d : Value) : argsOk "int.to_bytes" ⟨[a, b], [(sOrd, c), (sSig, d)]⟩ := by unfold argsOk; kernel_rfl
theorem tob_ok (x : Int) : MethOk prog w h₁ n (Str.ofString "to_bytes") (.int x) (tobF x) := by
  refine meth_plain (meth_int rfl KTBy.slot KTBy.type_eq) fun A E Q s H v args kws ps ks k r R hs hv ha hk e N => ?_
  unfold tobF at e
  split at e
  · rename_i m n1 o n2
    obtain ⟨g, e2⟩ := gate_some e
    clear e
    obtain ⟨g, g7⟩ := and_split g
    obtain ⟨g, g6⟩ := and_split g
    obtain ⟨g, g5⟩ := and_split g
    obtain ⟨g, g4⟩ := and_split g
    obtain ⟨g, g3⟩ := and_split g
    obtain ⟨g1, g2⟩ := and_split g
    have g1 := of_decide_eq_true g1
    have g2 := of_decide_eq_true g2
    have g3 := of_decide_eq_true g3
    have g4 := of_decide_eq_true g4
    have g5 := of_decide_eq_true g5
    have g6 := of_decide_eq_true g6
    have g7 := of_decide_eq_true g7
    subst g1; subst g2; subst g3
    obtain ⟨m, rfl⟩ := Int.eq_ofNat_of_zero_le g4
    obtain ⟨x, rfl⟩ := Int.eq_ofNat_of_zero_le g6
    simp only [Int.toNat_natCast] at g7 e2
    cases ha with
    | cons hm ht =>
      cases ht
      cases hm
      cases hk with
      | cons h1 hk =>
        cases hk with
        | cons h2 hk =>
          cases hk
          cases h1
          cases h2
          cases hv
          rename_i u v t
          refine wpAny_call_entry_kw KTBy.slot (typeIs_int s _ _) KTBy.entry ?_ (args_tob _ _ _ _)
          have hb : Builtin.Int.intBits (x : Int) ≤ 8 * m := KTBy.bits_le (B := (256 : Int) ^ m) rfl (by omega) (by
            have := Int.ofNat_lt.mpr g7
            rw [KTBy.p256]; exact this)
          show wpAny _ _ (Builtin.Int.intOfSelf (.int (x : Int) t) >>= fun y => _) _ _ s
          refine wpAny_bind (wpAny_of_eq (a := (x : Int)) rfl ?_)
          show wpAny _ _ (Builtin.Int.intBindNamed "to_bytes" ["length", "byteorder", "signed"] 0 2 [.int (m : Int) u] [(sOrd, .str sLit v), (sSig, .bool false)] >>= fun l => _) _ _ s
          refine wpAny_bind (wpAny_of_eq (a := [some (.int (m : Int) u), some (.str sLit v), some (.bool false)]) (by kernel_rfl) ?_)
          show wpAny _ _ (Builtin.Int.intIndex "int.to_bytes" (.int (m : Int) u) >>= fun n => _) _ _ s
          refine wpAny_bind (wpAny_of_eq (a := (m : Int)) rfl ?_)
          refine KTBy.if_not (by show (decide ((m : Int) < -(2 ^ 63 : Int)) || decide ((m : Int) ≥ 2 ^ 63)) = false; rw [decide_eq_false (show ¬ ((m : Int) < -(2 ^ 63 : Int)) by omega), decide_eq_false (show ¬ ((m : Int) ≥ 2 ^ 63) by omega)]; rfl) ?_
          refine wpAny_bind (wpAny_of_eq (a := sLit) (by kernel_rfl) ?_)
          refine wpAny_bind (wpAny_of_eq (a := false) rfl ?_)
          refine wpAny_bind (wpAny_of_eq (a := true) (by kernel_rfl) ?_)
          refine wpAny_ite_false (decide_eq_false (show ¬ ((m : Int) < 0) by omega)) ?_
          refine wpAny_ite_false (decide_eq_false (show ¬ ((m : Int) > 2 ^ 63 - 1 - 33) by omega)) ?_
          refine wpAny_ite_false (decide_eq_false (show ¬ ((m : Int) > (sizeLine : Int)) by rw [sizeLine_eq]; omega)) ?_
          refine KTBy.if_not (by show (decide ((x : Int) < 0) && !false) = false; rw [decide_eq_false (show ¬ (x : Int) < 0 by omega)]; rfl) ?_
          refine KTBy.if_not (by show (_ && decide ((Builtin.Int.intBits (x : Int) : Int) > 8 * (m : Int))) = false; rw [decide_eq_false (show ¬ ((Builtin.Int.intBits (x : Int) : Int) > 8 * (m : Int)) by omega), Bool.and_false]) ?_
          refine wpAny_bind (wpAny_mkBytes (wpAny_pure ⟨_, rfl, ?_⟩) (by show (KTBy.low x (Int.toNat (m : Int))).length ≤ sizeLine; rw [KTBy.low_length, Int.toNat_natCast, sizeLine_eq]; omega))
          show Q (.bytes (KTBy.low x (Int.toNat (m : Int))).toArray _) _
          rw [Int.toNat_natCast, low_leN g7]
          exact next_flat hs N (.bytes _ _) e2
  · cases e
end Mine
end

/-! Bi5 -/
section
open PySem PySem.W PyProof.Rows
set_option maxRecDepth 100000
namespace Mine
variable {prog : Program} {w : World} {h₁ : Heap} {n : Nat} {A : Around} {s s' : Shared} {H H' : PHeap} {r : PV} {E : Value → Shared → Prop} {k : K} {Q : Value → Shared → Prop}

def fbF : Fun := fun as ks k => match as, ks with
  | [.bytes b, .str o], [] => gate (decide (o = sLit) && decide (b.length ≤ 8)) (k (.int (leV b)))
  | [.bytes b], [(n1, .str o)] => gate (decide (n1 = sOrd) && decide (o = sLit) && decide (b.length ≤ 8)) (k (.int (leV b)))
  | [.bytes b], [(n1, .str o), (n2, .bool false)] => gate (decide (n1 = sOrd) && decide (o = sLit) && decide (n2 = sSig) && decide (b.length ≤ 8)) (k (.int (leV b)))
  | _, _ => none
theorem fb_run {b : List UInt8} {rest : List Value} {kws : List (Str × Value)} {t u : Tok} {P : Fin → Shared → Prop} (sg : Option Value) (hl : b.length ≤ 8)
    (hb : Builtin.Int.intBindNamed "from_bytes" ["bytes", "byteorder", "signed"] 1 2 rest kws = pure [some (.bytes b.toArray t), some (.str sLit u), sg]) (hsg : sg = none ∨ sg = some (.bool false))
    (h : P (.done (.ret (.int (leV b) s.toks))) { s with toks := s.toks + 1 }) :
    wpAny (model prog w) A (Builtin.«int.from_bytes» ⟨.type "int" :: rest, kws⟩) P E s := by
  have hn : b.reverse.foldl (fun (acc : Nat) (b : UInt8) => acc * 256 + b.toNat) 0 < 2 ^ 64 := by
    have h1 := KFB.fold_lt b.reverse 0
    rw [Nat.zero_add, Nat.one_mul, List.length_reverse] at h1
    have h2 : 256 ^ b.length ≤ 256 ^ 8 := Nat.pow_le_pow_right (by decide) hl
    omega
  unfold Builtin.«int.from_bytes»
  refine wpAny_bind (wpAny_of_eq (a := true) KFB.type_int ?_)
  refine KFB.if_not rfl ?_
  refine wpAny_bind (wpAny_of_eq (a := true) F.conv_sub_int ?_)
  refine KFB.if_not rfl ?_
  refine wpAny_bind (wpAny_of_eq hb ?_)
  refine wpAny_bind (wpAny_of_eq (a := sLit) (by kernel_rfl) ?_)
  rcases hsg with rfl | rfl
  · refine wpAny_bind (wpAny_of_eq (a := false) rfl ?_)
    refine wpAny_bind (wpAny_of_eq (a := true) (by kernel_rfl) ?_)
    refine wpAny_bind (wpAny_of_eq (a := b.toArray) rfl ?_)
    show wpAny _ _ (mkIntGrown (b.reverse.foldl (fun (acc : Int) (b : UInt8) => acc * 256 + (b.toNat : Int)) ((0 : Nat) : Int)) >>= fun v => _) _ _ _
    rw [KFB.foldI_eq]
    refine wpAny_bind (KFB.grown hn ?_)
    rw [leV_fold]
    refine KFB.if_so (by decide +kernel) ?_
    exact wpAny_bind (wpAny_pure (wpAny_pure h))
  · refine wpAny_bind (wpAny_of_eq (a := false) rfl ?_)
    refine wpAny_bind (wpAny_of_eq (a := true) (by kernel_rfl) ?_)
    refine wpAny_bind (wpAny_of_eq (a := b.toArray) rfl ?_)
    show wpAny _ _ (mkIntGrown (b.reverse.foldl (fun (acc : Int) (b : UInt8) => acc * 256 + (b.toNat : Int)) ((0 : Nat) : Int)) >>= fun v => _) _ _ _
    rw [KFB.foldI_eq]
    refine wpAny_bind (KFB.grown hn ?_)
    rw [leV_fold]
    refine KFB.if_so (by decide +kernel) ?_
    exact wpAny_bind (wpAny_pure (wpAny_pure h))
theorem fb_call {x : Addr} {rest : List Value} {kws : List (Str × Value)} {z : Int} (ho : s.heap.get? x = some KFB.bound) (hc : checkBoundCall "int.from_bytes" ⟨.type "int" :: rest, kws⟩ = pure ())
    (tree : ∀ {P : Fin → Shared → Prop} {E' : Value → Shared → Prop} {A' : Around}, P (.done (.ret (.int z s.toks))) { s with toks := s.toks + 1 } → wpAny (model prog w) A' (Builtin.«int.from_bytes» ⟨.type "int" :: rest, kws⟩) P E' s)
    (h : Q (.int z s.toks) { s with toks := s.toks + 1 }) : wpAny (model prog w) A (call (.ref x) rest kws) Q E s := by
  refine wpAny_call (codeAny_of_tree ?_)
  show wpAny _ A.in1 (callAny (.ref x) ⟨rest, kws⟩) _ _ s
  simp only [callAny]
  refine wpAny_bind (wpAny_load ho ?_)
  simp only [KFB.bound, show (Value.type "builtin_function_or_method" == Value.type "method" || Value.type "builtin_function_or_method" == Value.type "builtin_function_or_method" || Value.type "builtin_function_or_method" == Value.type "method-wrapper") = true by decide, if_true]
  refine KFB.if_so (by decide) ?_
  refine wpAny_bind (wpAny_of_eq (a := ()) hc ?_)
  refine wpAny_bind (wpAny_pure (wpAny_pure ?_))
  exact ⟨KFB.quiet_fb, codeAny_builtin KFB.entry_fb (tree h)⟩
theorem fb_get {K : Frag} {pl : Sem Bool} {QQ : Value × List Value → Shared → Prop} (X : K.In s.heap)
    (e : findCls K (.type "int") (.type "type") (PySem.Str.ofString "from_bytes") = some (.get (.builtin "classmethod_descriptor.__get__") (.builtin "int.from_bytes") .none (.type "int")))
    (h : QQ (.ref s.heap.objs.size, []) { s with heap := s.heap.push KFB.bound, toks := s.toks + 1 }) : wpAny (model prog w) A (getMethod (.type "int") (PySem.Str.ofString "from_bytes") pl) QQ E s := by
  have hstub : opaqueClassAbove (.type "int") = pure none := by unfold opaqueClassAbove; dsimp only; rw [show Manifest.isStub "int" = false by decide +kernel]; rfl
  have ht : typeOf (.type "int") = pure (.type "type") := by first | rfl | kernel_rfl
  have L0 : Looks (model prog w) s.heap (typeOf (.type "int")) (.type "type") := Looks.of_pure ht
  have hg : findIn K (.type "type") "__getattribute__" = some (some (.builtin "type.__getattribute__")) := type_tga
  unfold getMethod specialOf
  refine wpAny_bind (wpAny_bind (L0.here ((looks_findIn X hg).here ?_)))
  dsimp only
  rw [if_pos canon_tga]
  refine wpAny_bind (wpAny_mono (Q := fun v => QQ (v, [])) (E := E) ?_ (fun _ _ z => wpAny_pure z) fun _ _ z => z)
  have LO : Looks (model prog w) s.heap (opaqueClassAbove (.type "int")) none := Looks.of_pure hstub
  refine cls_open X LO L0 hg (looks_hook X (r := none) (by rfl)) (by show subIn K _ _ = _; rfl) e ?_
  show wpAny _ _ (holding [.builtin "int.from_bytes"] (call (.builtin "classmethod_descriptor.__get__") [.builtin "int.from_bytes", .none, .type "int"]) >>= fun v => ret v) _ _ _
  exact wpAny_bind (wpAny_holding (wpAny_call_entry KFB.slot_get KFB.type_fb KFB.entry_get (KFB.run_get ⟨_, rfl, wpAny_pure (wpAny_pure h)⟩) (KFB.args_get _ _ _)))
theorem keeper_bound {h : Heap} {x : Addr} (ho : h.get? x = some KFB.bound) : KeeperOk h (.ref x) := fun M => ⟨.machine, .inr (.inl rfl), fun A Q E s k q => by
  unfold keeperOf
  refine wpAny_bind (wpAny_load (k _ _ ho) ?_)
  simp only [KFB.bound, show (Value.type "builtin_function_or_method" != Value.type "method") = true by decide, show (Value.type "builtin_function_or_method" == Value.type "builtin_function_or_method" || Value.type "builtin_function_or_method" == Value.type "method-wrapper") = true by decide, if_true]
  exact wpAny_pure q⟩
theorem fb_ok {K : Frag} (X : K.In h₁) (hf : findCls K (.type "int") (.type "type") (PySem.Str.ofString "from_bytes") = some (.get (.builtin "classmethod_descriptor.__get__") (.builtin "int.from_bytes") .none (.type "int"))) :
    MethOk prog w h₁ n (Str.ofString "from_bytes") (.raw (.type "int")) fbF := by
  intro A E QQ pl s H v R g hv hq
  cases hv
  have nw := After.new (s := s) (H := H) (t := s.toks + 1) g.sub (.push _ _) (get_size_none _) (Heap.get?_push_size (h := s.heap) (o := KFB.bound) rfl)
  refine fb_get (X.keeps g.keep) hf (hq _ _ _ _ nw (fun h kp => keeper_bound (kp _ _ (Heap.get?_push_size _ rfl))) ?_)
  intro A' E' Q' s' H' args kws ps ks k r R' g' a ha hk e N
  have ho : s'.heap.get? s.heap.objs.size = some KFB.bound := a.keep _ _ (Heap.get?_push_size _ rfl)
  unfold fbF at e
  split at e
  · obtain ⟨gt, e2⟩ := gate_some e
    clear e
    obtain ⟨g1, g2⟩ := and_split gt
    have g1 := of_decide_eq_true g1
    have g2 := of_decide_eq_true g2
    subst g1
    cases hk
    cases ha with
    | cons hb ht =>
      cases ht with
      | cons ho' ht =>
        cases ht
        cases hb
        cases ho'
        rename_i b t u
        exact fb_call ho (by kernel_rfl) (fun z => fb_run (t := t) (u := u) none g2 (by kernel_rfl) (.inl rfl) z) (next_flat g'.sub N (.int _ _) e2)
  · obtain ⟨gt, e2⟩ := gate_some e
    clear e
    obtain ⟨gt, g3⟩ := and_split gt
    obtain ⟨g1, g2⟩ := and_split gt
    have g1 := of_decide_eq_true g1
    have g2 := of_decide_eq_true g2
    have g3 := of_decide_eq_true g3
    subst g1; subst g2
    cases ha with
    | cons hb ht =>
      cases ht
      cases hb
      cases hk with
      | cons h1 hk =>
        cases hk
        cases h1
        rename_i t u
        exact fb_call ho (by kernel_rfl) (fun z => fb_run (t := t) (u := u) none g3 (by kernel_rfl) (.inl rfl) z) (next_flat g'.sub N (.int _ _) e2)
  · obtain ⟨gt, e2⟩ := gate_some e
    clear e
    obtain ⟨gt, g4⟩ := and_split gt
    obtain ⟨gt, g3⟩ := and_split gt
    obtain ⟨g1, g2⟩ := and_split gt
    have g1 := of_decide_eq_true g1
    have g2 := of_decide_eq_true g2
    have g3 := of_decide_eq_true g3
    have g4 := of_decide_eq_true g4
    subst g1; subst g2; subst g3
    cases ha with
    | cons hb ht =>
      cases ht
      cases hb
      cases hk with
      | cons h1 hk =>
        cases hk with
        | cons h2 hk =>
          cases hk
          cases h1
          cases h2
          rename_i t u
          exact fb_call ho (by kernel_rfl) (fun z => fb_run (t := t) (u := u) (some (.bool false)) g4 (by kernel_rfl) (.inr rfl) z) (next_flat g'.sub N (.int _ _) e2)
  · cases e
end Mine
end

/-! Bi6 -/
section
open PySem PySem.W PyProof.Rows
set_option maxRecDepth 100000
namespace Mine
variable {prog : Program} {w : World} {h₁ : Heap} {n : Nat} {A : Around} {s s' : Shared} {H H' : PHeap} {r : PV} {E : Value → Shared → Prop} {k : K} {Q : Value → Shared → Prop} {M : Model}
open Builtin.Bytes
theorem lk_buffer : typeLookup (.type "bytes") (Str.ofString "__buffer__") = pure (some (.builtin "bytes.__buffer__")) := by rw [typeLookup_type, builtinLookup_eq_fast]; kernel_rfl
theorem lk_release : typeLookup (.type "bytes") (Str.ofString "__release_buffer__") = pure none := by rw [typeLookup_type, builtinLookup_eq_fast]; kernel_rfl
theorem slot_own {b : Array UInt8} {t : Tok} {QQ : Bool → Shared → Prop} (h : QQ true s) : wpAny M A (slotIsOwn (.bytes b t) "__buffer__") QQ E s := by
  unfold slotIsOwn
  refine wpAny_bind (wpAny_specialOf (PySem.W.typeIs_bytes s _ _) lk_buffer ?_)
  have e1 : ("bytes.__buffer__".endsWith ("." ++ "__buffer__")) = true := by decide +kernel
  have e2 : "bytes.__buffer__".dropRight ("__buffer__".length + 1) = "bytes" := by decide +kernel
  simp only [e1, e2, Bool.not_true, Bool.false_eq_true, if_false]
  exact wpAny_isInstance (T := "bytes") (b := true) (PySem.W.typeIs_bytes s _ _) (by rw [isSubtype_type]; kernel_rfl) h
theorem own_rel {b : Array UInt8} {t : Tok} {QQ : Bool → Shared → Prop} (h : QQ false s) : wpAny M A (ownRelease (.bytes b t)) QQ E s := by
  unfold ownRelease slotIsOwn
  refine wpAny_bind ?_
  refine wpAny_bind (wpAny_specialOf (PySem.W.typeIs_bytes s _ _) lk_release ?_)
  exact wpAny_pure (wpAny_pure h)
theorem buf_bytes {b : Array UInt8} {t : Tok} {id : String} {f : Bool} {QQ : Option (Array UInt8) → Shared → Prop} (h : QQ (some b) s) : wpAny M A (buffer? id (.bytes b t) f) QQ E s := by
  unfold buffer?
  refine wpAny_bind (wpAny_specialOf (PySem.W.typeIs_bytes s _ _) lk_buffer ?_)
  refine wpAny_bind (slot_own ?_)
  simp only [Bool.not_true, Bool.false_eq_true, if_false]
  refine wpAny_bind (wpAny_specialOf (PySem.W.typeIs_bytes s _ _) lk_buffer ?_)
  refine wpAny_bind (own_rel ?_)
  simp only [Bool.false_eq_true, if_false]
  exact wpAny_bind (wpAny_pure (wpAny_pure h))
theorem take_bytes {b : Array UInt8} {t : Tok} {id : String} {QQ : Option (Array UInt8 × Option Value) → Shared → Prop} (h : QQ (some (b, none)) s) : wpAny M A (takeBuffer? id (.bytes b t) 0) QQ E s := by
  unfold takeBuffer?
  refine wpAny_bind (wpAny_specialOf (PySem.W.typeIs_bytes s _ _) lk_buffer ?_)
  refine wpAny_bind (slot_own ?_)
  simp only [Bool.not_true, Bool.false_eq_true, if_false]
  refine wpAny_bind (wpAny_specialOf (PySem.W.typeIs_bytes s _ _) lk_buffer ?_)
  exact wpAny_bind (buf_bytes (wpAny_pure h))
theorem takeq_bytes {b : Array UInt8} {t : Tok} {id : String} {QQ : Option (Array UInt8 × Option Value) → Shared → Prop} (h : QQ (some (b, none)) s) : wpAny M A (takeBufferQuiet? id (.bytes b t) 0) QQ E s := by
  unfold takeBufferQuiet?
  exact wpAny_bind (wpAny_attempt (take_bytes (wpAny_pure h)))
theorem range_loop {β : Type} {F : Nat → β → Sem (ForInStep β)} {QQ : β → Shared → Prop} (I : Nat → β → Shared → Prop) (N : Nat) (turn : ∀ i b s, i < N → I i b s → wpAny M A (F i b) (fun r s' => ∃ b', r = .yield b' ∧ I (i + 1) b' s') E s)
    (fin : ∀ b s, I N b s → QQ b s) {b : β} (h : I 0 b s) : wpAny M A (forIn [0:N] b F) QQ E s := by
  have go : ∀ (m i : Nat) (b : β) (s : Shared), i + m = N → I i b s → wpAny M A (forIn (List.range' i m) b F) QQ E s := by
    intro m
    induction m with
    | zero => intro i b s e h; exact wpAny_pure (fin b s (by have : i = N := by omega
                                                             exact this ▸ h))
    | succ m ih =>
      intro i b s e h
      rw [List.range'_succ, List.forIn_cons]
      refine wpAny_bind (wpAny_mono (turn i b s (by omega) h) (fun r s' hr => ?_) fun _ _ e => e)
      obtain ⟨b', rfl, hb⟩ := hr
      exact ih (i + 1) b' s' (by omega) hb
  have e : forIn [0:N] b F = forIn (List.range' 0 N) b F := by
    first
      | (rw [Std.Legacy.Range.forIn_eq_forIn_range']; simp [Std.Legacy.Range.size])
      | (rw [Std.Range.forIn_eq_forIn_range']; simp [Std.Range.size])
  rw [e]
  exact go N 0 b s (by omega) h
theorem let_go_all : ∀ (l : List Value) (keep : List Value) {QQ : Unit → Shared → Prop}, QQ () s → wpAny M A (joinLetGo (l.map fun v => (v, none)) keep) QQ E s
  | [], keep, QQ, h => wpAny_pure h
  | v :: l, keep, QQ, h => by
    show wpAny _ _ (joinLetGo ((v, none) :: l.map fun v => (v, none)) keep) _ _ _
    unfold joinLetGo
    exact wpAny_bind (wpAny_letGo (let_go_all l keep h))

def bvs (xs : List (List UInt8 × Tok)) : List Value := xs.map fun p => .bytes p.1.toArray p.2
theorem joined_nil : ∀ (ps : List (Array UInt8)) (i : Nat) (out : Array UInt8), ((ps.zipIdx i).foldl (fun (out : Array UInt8) (pi : Array UInt8 × Nat) => (if pi.2 > 0 then out ++ #[] else out) ++ pi.1) out) = out ++ (ps.map (·.toList)).flatten.toArray
  | [], i, out => by simp
  | p :: ps, i, out => by
    rw [List.zipIdx_cons, List.foldl_cons, joined_nil ps (i + 1)]
    have : (if (p, i).2 > 0 then out ++ #[] else out) = out := by split <;> simp
    rw [this, List.map_cons, List.flatten_cons, ← List.append_toArray, Array.append_assoc]
theorem sizes_fold : ∀ (ps : List (Array UInt8)) (z : Nat), ps.foldl (fun (a : Nat) (b : Array UInt8) => a + b.size) z = z + (ps.map (·.toList)).flatten.length
  | [], z => by simp
  | p :: ps, z => by rw [List.foldl_cons, sizes_fold ps]; simp; omega
theorem jtree {t : Tok} {l : Addr} {o : Obj} {nn : Nat} {xs : List (List UInt8 × Tok)} (ho : s.heap.get? l = some o) (hc : o.cls = .type "list") (hd : o.data = .seq (bvs xs).toArray nn) (hz : (xs.map (·.1)).flatten.length ≤ 1000000)
    (h : ∀ t' k, Q (.bytes (xs.map (·.1)).flatten.toArray t') { s with toks := k }) : wpAny (model prog w) A (Builtin.«bytes.join» ⟨[.bytes #[] t, .ref l], []⟩) (fun fin s' => ∃ v, fin = .done (.ret v) ∧ Q v s') E s := by
  have hT : s.TypeIs (.ref l) "list" := ⟨o, ho, hc⟩
  unfold Builtin.«bytes.join» joinM
  refine wpAny_bind (wpAny_of_eq (a := (.bytes #[] t, .ref l)) rfl ?_)
  show wpAny _ _ (joinItems (.ref l) >>= _) _ _ s
  refine wpAny_bind ?_
  unfold joinItems
  refine wpAny_bind (wpAny_typeOf hT ?_)
  show wpAny _ _ (pure (Value.ref l) : Sem Value) _ _ s
  refine wpAny_pure ?_
  refine wpAny_bind (wpAny_seqItems ho hd ?_)
  rcases xs with _ | ⟨p, _ | ⟨q, xs⟩⟩
  case cons.nil =>
    show wpAny _ _ (typeOf (.bytes p.1.toArray p.2) >>= _) _ _ s
    refine wpAny_bind (wpAny_typeOf (PySem.W.typeIs_bytes s _ _) ?_)
    show wpAny _ _ (rule _ >>= fun _ => ret _ >>= _) _ _ s
    have := h p.2 s.toks
    simp only [List.map_cons, List.map_nil, List.flatten_cons, List.flatten_nil, List.append_nil] at this
    exact wpAny_bind (wpAny_rule (wpAny_bind (wpAny_pure (wpAny_pure ⟨_, rfl, this⟩))))
  case' nil => obtain ⟨ys, hys⟩ : ∃ ys : List (List UInt8 × Tok), ys = [] := ⟨_, rfl⟩
  case' cons.cons => obtain ⟨ys, hys⟩ : ∃ ys : List (List UInt8 × Tok), ys = p :: q :: xs := ⟨_, rfl⟩
  all_goals
    rw [← hys] at hd hz h
    refine wpAny_bind (range_loop (I := fun i (pt : Array (Array UInt8) × List (Value × Option Value)) s' => s' = s ∧ pt.1 = ((ys.take i).map fun p => p.1.toArray).toArray ∧ pt.2 = ((bvs ys).take i).map fun v => (v, none)) _ ?turn ?fin ⟨rfl, by simp, by simp⟩)
    case turn =>
      rintro i ⟨pt1, pt2⟩ s' hi ⟨rfl, rfl, rfl⟩
      refine wpAny_bind (wpAny_seqItems ho hd ?_)
      have hi' : i < ys.length := by rw [← hys] at hi; simpa [bvs] using hi
      have hx : (bvs ys).toArray.getD i Value.none = .bytes ys[i].1.toArray ys[i].2 := by simp [bvs, Array.getD, hi']
      have hon : (Kind.bytes == Kind.bytearray || (((bvs ys).take i).map fun v => (v, (none : Option Value))).any fun x => x.1.onHeap) = false := by
        rw [Bool.or_eq_false_iff]
        refine ⟨rfl, List.any_eq_false.mpr fun x hx => ?_⟩
        obtain ⟨v, hv, rfl⟩ := List.mem_map.mp hx
        obtain ⟨p, _, rfl⟩ := List.mem_map.mp (List.mem_of_mem_take hv)
        simp [Value.onHeap]
      dsimp only
      rw [hon, hx]
      refine wpAny_bind (wpAny_holding (takeq_bytes ?_))
      refine wpAny_bind (wpAny_seqItems ho hd ?_)
      dsimp only
      rw [if_neg (by rw [hys]; simp)]
      refine wpAny_pure ⟨_, rfl, rfl, ?_, ?_⟩
      · have e : (ys.take (i + 1)).map (fun p => p.1.toArray) = (ys.take i).map (fun p => p.1.toArray) ++ [ys[i].1.toArray] := by
          rw [List.take_add_one, List.getElem?_eq_getElem hi']
          simp only [Option.toList_some, List.map_append, List.map_cons, List.map_nil]
        rw [e, List.push_toArray]
      · have : (bvs ys)[i]? = some (.bytes ys[i].1.toArray ys[i].2) := by simp [bvs, hi']
        rw [List.take_add_one, this]; simp
    case fin =>
      rintro ⟨pt1, pt2⟩ s' ⟨rfl, h1, h2⟩
      have hlen : (bvs ys).toArray.size = ys.length := by simp [bvs]
      rw [← hys, hlen] at h1 h2
      rw [List.take_length] at h1
      rw [show ys.length = (bvs ys).length by simp [bvs], List.take_length] at h2
      dsimp only at h1 h2 ⊢
      subst h1; subst h2
      refine wpAny_bind (wpAny_of_eq (a := #[]) rfl ?_)
      have hflat : (((ys.map fun p => p.1.toArray).toArray.toList).map (·.toList)).flatten = (ys.map (·.1)).flatten := by
        rw [show (ys.map fun p => p.1.toArray).toArray.toList = ys.map fun p => p.1.toArray from rfl, List.map_map]
        congr 1
      have hsz : ((ys.map fun p => p.1.toArray).toArray.foldl (fun (a : Nat) (b : Array UInt8) => a + b.size) ((#[] : Array UInt8).size * ((ys.map fun p => p.1.toArray).toArray.size - 1))) = (ys.map (·.1)).flatten.length := by
        rw [← Array.foldl_toList, sizes_fold, hflat]; simp
      refine wpAny_ite_false (by rw [hsz]; exact decide_eq_false (by
          intro q
          have := of_decide_eq_true q
          rw [sizeLine_eq] at this
          omega)) ?_
      have hj : joined #[] (ys.map fun p => p.1.toArray).toArray.toList = (ys.map (·.1)).flatten.toArray := by
        unfold joined
        rw [joined_nil, hflat]; simp
      rw [hj]
      show wpAny _ _ (mkBytes _ >>= _) _ _ s'
      refine wpAny_bind (wpAny_mkBytes ?_ (by rw [sizeLine_eq]; simpa using Nat.le_trans hz (by decide)))
      refine wpAny_bind (wpAny_holding (wpAny_point ?_))
      refine wpAny_bind (let_go_all (bvs ys) _ ?_)
      exact wpAny_pure ⟨_, rfl, h _ _⟩
end Mine
end

/-! Bi7 -/
section
open PySem PySem.W PyProof.Rows
set_option maxRecDepth 100000
namespace Mine
variable {prog : Program} {w : World} {h₁ : Heap} {n : Nat} {A : Around} {s s' : Shared} {H H' : PHeap} {r : PV} {E : Value → Shared → Prop} {k : K} {Q : Value → Shared → Prop} {M : Model}

theorem slot_bytes_join : Slot "bytes" (Str.ofString "join") "bytes.join" :=
  .of (owner := "bytes") (n := "join") (by rw [typeLookup_type, builtinLookup_eq_fast]; kernel_rfl) (by decide +kernel) (by decide +kernel) (by decide +kernel)
    (by first | exact .inl (by decide +kernel) | exact .inr (by decide +kernel)) (by rw [isSubtype_type]; kernel_rfl)
theorem type_bytes_join : typeOf (.builtin "bytes.join") = pure (.type "method_descriptor") := by show builtinType _ = _; rw [builtinType_eq_fast]; kernel_rfl
theorem entry_bytes_join : entryFor table "bytes.join" = some Builtin.«bytes.join» := entryFor_of_tree (by kernel_rfl)
theorem args_bytes_join (a b : Value) : argsOk "bytes.join" ⟨[a, b], []⟩ := by unfold argsOk; kernel_rfl

def toBs : List PV → Option (List (List UInt8))
  | [] => some []
  | .bytes b :: l => match toBs l with | some r => some (b :: r) | none => none
  | _ => none
def toSs : List PV → Option (List Str)
  | [] => some []
  | .str b :: l => match toSs l with | some r => some (b :: r) | none => none
  | _ => none
theorem toBs_rep : ∀ {vs : List Value} {ps : List PV} {bs : List (List UInt8)}, RepL prog w H vs ps → toBs ps = some bs → ∃ xs, vs = bvs xs ∧ xs.map (·.1) = bs
  | _, _, _, .nil, e => by simp only [toBs, Option.some.injEq] at e; subst e; exact ⟨[], rfl, rfl⟩
  | _, _, _, .cons hv ht, e => by
    cases hv with
    | bytes b t =>
      simp only [toBs] at e
      split at e
      · rename_i r hr
        cases e
        obtain ⟨xs, h1, h2⟩ := toBs_rep ht hr
        exact ⟨(b, t) :: xs, by rw [h1]; rfl, by rw [← h2]; rfl⟩
      · cases e
    | _ => simp [toBs] at e
theorem toSs_rep : ∀ {vs : List Value} {ps : List PV} {bs : List Str}, RepL prog w H vs ps → toSs ps = some bs → ∃ xs : List (Str × Tok), vs = strValues xs ∧ xs.map (·.1) = bs
  | _, _, _, .nil, e => by simp only [toSs, Option.some.injEq] at e; subst e; exact ⟨[], rfl, rfl⟩
  | _, _, _, .cons hv ht, e => by
    cases hv with
    | str b t =>
      simp only [toSs] at e
      split at e
      · rename_i r hr
        cases e
        obtain ⟨xs, h1, h2⟩ := toSs_rep ht hr
        exact ⟨(b, t) :: xs, by rw [h1]; rfl, by rw [← h2]; rfl⟩
      · cases e
    | _ => simp [toSs] at e
def bjoinF (b : List UInt8) : Fun := fun as ks k => match b, as, ks with
  | [], [.lst l], [] => match toBs l with
    | some bs => gate (lenOk bs.flatten.length) (k (.bytes bs.flatten))
    | none => none
  | _, _, _ => none
theorem bjoin_ok (b : List UInt8) : MethOk prog w h₁ n (Str.ofString "join") (.bytes b) (bjoinF b) := by
  refine meth_plain (meth_bytes rfl slot_bytes_join type_bytes_join) fun A E Q s H v args kws ps ks k r R hs hv ha hk e N => ?_
  unfold bjoinF at e
  split at e
  · split at e
    · rename_i bs hbs
      obtain ⟨g, e⟩ := gate_some e
      have g := lenOk_le g
      cases hk
      cases hv
      cases ha with
      | cons hl ht =>
        cases ht
        cases hl with
        | lst h1 h2 h3 h4 =>
          obtain ⟨xs, q1, q2⟩ := toBs_rep h4 hbs
          rw [q1] at h3
          refine wpAny_call_entry slot_bytes_join (PySem.W.typeIs_bytes s _ _) entry_bytes_join ?_ (args_bytes_join _ _)
          refine jtree (hs _ _ h1) h2 h3 (by rw [q2]; exact g) fun t' k' => ?_
          rw [q2]
          exact next_flat hs N (.bytes _ _) e
    · cases e
  · cases e
def sjoinF (x : Str) : Fun := fun as ks k => match as, ks with
  | [.lst l], [] => match toSs l with
    | some bs => gate (JoinOk x bs) (k (.str (PySem.Txt.join x bs)))
    | none => none
  | _, _ => none
theorem sjoin_ok (x : Str) : MethOk prog w h₁ n (Str.ofString "join") (.str x) (sjoinF x) := by
  refine meth_plain (meth_str rfl F.slot_str_join F.type_str_join) fun A E Q s H v args kws ps ks k r R hs hv ha hk e N => ?_
  unfold sjoinF at e
  split at e
  · split at e
    · rename_i bs hbs
      obtain ⟨g, e⟩ := gate_some e
      cases hk
      cases hv
      cases ha with
      | cons hl ht =>
        cases ht
        cases hl with
        | lst h1 h2 h3 h4 =>
          obtain ⟨xs, q1, q2⟩ := toSs_rep h4 hbs
          have := repL_isList hs h1 h2 h3
          rw [q1] at this
          exact SC.join this q2 g fun t' k' => next_flat hs N (.str _ _) e
    · cases e
  · cases e

/-! a dict's get -/
def getF (d : List (Int × Str)) : Fun := fun as ks k => match as, ks with
  | [.int i], [] => match d.lookup i with
    | some x => k (.str x)
    | none => k .none
  | [.int i, .str y], [] => match d.lookup i with
    | some x => k (.str x)
    | none => k (.str y)
  | _, _ => none
theorem get_ok (d : List (Int × Str)) : MethOk prog w h₁ n (Str.ofString "get") (.dci d) (getF d) := by
  refine meth_plain (id := "dict.get") (fun A E Q pl s H v hs hv h => ?_) fun A E Q s H v args kws ps ks k r R hs hv ha hk e N => ?_
  · cases hv with
    | dci h1 h2 h3 h4 =>
      have hm := h3 _ (hs _ _ h1)
      exact getMethod_builtin hm.typeIs F.plainAttrs_dict F.slot_dict_get F.type_dict_get hm.noDict h
  · cases hv with
    | dci h1 h2 h3 h4 =>
      have hm := h3 _ (hs _ _ h1)
      unfold getF at e
      split at e
      · rename_i i
        cases hk
        cases ha with
        | cons hi ht =>
          cases ht
          cases hi
          rename_i t
          refine call_meetsIn F.slot_dict_get hm.typeIs F.entry_dict_get (F.args_dict_get_2 _ _) (meets_dict_get _ _ (intKind_is prog w i t) h2) ⟨_, hm, ?_⟩
          have q := h4 i
          split at e
          · rename_i x hx
            rw [hx] at q
            obtain ⟨t', q⟩ := q
            rw [q]
            exact next_flat hs N (.str _ _) e
          · rename_i hx
            rw [hx] at q
            rw [show _ = none from q]
            exact next_flat hs N .none e
      · rename_i i y
        cases hk
        cases ha with
        | cons hi ht =>
          cases ht with
          | cons hy ht =>
            cases ht
            cases hi
            cases hy
            rename_i t t2
            refine call_meetsIn F.slot_dict_get hm.typeIs F.entry_dict_get (F.args_dict_get_3 _ _ _) (meets_dict_get_default _ _ (intKind_is prog w i t) h2 _) ⟨_, hm, ?_⟩
            have q := h4 i
            split at e
            · rename_i x hx
              rw [hx] at q
              obtain ⟨t', q⟩ := q
              rw [q]
              exact next_flat hs N (.str _ _) e
            · rename_i hx
              rw [hx] at q
              rw [show _ = none from q]
              exact next_flat hs N (.str _ _) e
      · cases e
end Mine
end

/-! Bi8 -/
section
open PySem PySem.W PyProof.Rows
set_option maxRecDepth 100000
namespace Mine
variable {prog : Program} {w : World} {h₁ : Heap} {n : Nat} {A : Around} {s s' : Shared} {H H' : PHeap} {r : PV} {E : Value → Shared → Prop} {k : K} {Q : Value → Shared → Prop} {M : Model}

/-! octets from a text of hexadecimal digits -/
def hexV (c : Nat) : Option Nat := bif decide (48 ≤ c) && decide (c ≤ 57) then some (c - 48) else bif decide (97 ≤ c) && decide (c ≤ 102) then some (c - 87) else bif decide (65 ≤ c) && decide (c ≤ 70) then some (c - 55) else none
def blankC (c : Nat) : Bool := decide (c < 128) && Builtin.Bytes.isSpace c.toUInt8
def hxL : Nat → List Nat → List UInt8 → Option (List UInt8)
  | 0, _, o => some o
  | _ + 1, [], o => some o
  | m + 1, c :: l, o => bif blankC c then hxL m l o else match hexV c, l with
    | some a, d :: l => match hexV d with
      | some b => hxL m l (o ++ [(a * 16 + b).toUInt8])
      | none => none
    | _, _ => none
def hxS (x : Str) : Option (List UInt8) := bif x.cps.any (fun c => decide (128 ≤ c)) then none else hxL x.cps.size x.cps.toList []

theorem fh_same (f : Nat → Nat → List Nat → Array UInt8 → Except Nat (Array UInt8)) (g : Nat → Option Nat) (hg : ∀ c, g c = if (48 ≤ c && c ≤ 57) = true then some (c - 48) else if (97 ≤ c && c ≤ 102) = true then some (c - 87) else if (65 ≤ c && c ≤ 70) = true then some (c - 55) else none)
    (h0 : ∀ i l o, f 0 i l o = .ok o) (h1 : ∀ m i o, f (m + 1) i [] o = .ok o)
    (h2 : ∀ m i c l o, (c < 128 && Builtin.Bytes.isSpace c.toUInt8) = true → f (m + 1) i (c :: l) o = f m (i + 1) l o)
    (h3 : ∀ m i c l o, (c < 128 && Builtin.Bytes.isSpace c.toUInt8) = false → g c = none → f (m + 1) i (c :: l) o = .error i)
    (h4 : ∀ m i c a o, (c < 128 && Builtin.Bytes.isSpace c.toUInt8) = false → g c = some a → f (m + 1) i [c] o = .error (i + 1))
    (h5 : ∀ m i c a d l o, (c < 128 && Builtin.Bytes.isSpace c.toUInt8) = false → g c = some a → g d = none → f (m + 1) i (c :: d :: l) o = .error (i + 1))
    (h6 : ∀ m i c a d b l o, (c < 128 && Builtin.Bytes.isSpace c.toUInt8) = false → g c = some a → g d = some b → f (m + 1) i (c :: d :: l) o = f m (i + 2) l (o.push (a * 16 + b).toUInt8)) :
    ∀ m i l (o : List UInt8), (∀ b, hxL m l o = some b → f m i l o.toArray = .ok b.toArray) ∧ (hxL m l o = none → ∃ j, j ≤ i + l.length + 1 ∧ f m i l o.toArray = .error j) := by
  have hgv : ∀ c, g c = hexV c := by
    intro c
    rw [hg]
    unfold hexV
    cases decide (48 ≤ c) && decide (c ≤ 57) <;> cases decide (97 ≤ c) && decide (c ≤ 102) <;> cases decide (65 ≤ c) && decide (c ≤ 70) <;> rfl
  intro m
  induction m with
  | zero => exact fun i l o => ⟨fun b e => (by cases e; exact h0 _ _ _), fun e => (by cases e)⟩
  | succ m ih =>
    intro i l o
    cases l with
    | nil => exact ⟨fun b e => (by cases e; exact h1 _ _ _), fun e => (by cases e)⟩
    | cons c l =>
      unfold hxL
      cases hb : blankC c with
      | true =>
        rw [h2 m i c l _ hb]
        exact ⟨(ih _ _ _).1, fun e => let ⟨j, hj, q⟩ := (ih (i + 1) l o).2 e; ⟨j, by rw [List.length_cons]; omega, q⟩⟩
      | false =>
        simp only [cond_false]
        cases hc : hexV c with
        | none =>
          refine ⟨fun b e => (by cases l <;> cases e), fun _ => ⟨_, by omega, h3 m i c l _ hb (by rw [hgv]; exact hc)⟩⟩
        | some a =>
          cases l with
          | nil => exact ⟨fun b e => (by cases e), fun _ => ⟨_, by omega, h4 m i c a _ hb (by rw [hgv]; exact hc)⟩⟩
          | cons d l =>
            dsimp only
            cases hd : hexV d with
            | none => exact ⟨fun b e => (by cases e), fun _ => ⟨_, by omega, h5 m i c a d l _ hb (by rw [hgv]; exact hc) (by rw [hgv]; exact hd)⟩⟩
            | some b =>
              rw [h6 m i c a d b l _ hb (by rw [hgv]; exact hc) (by rw [hgv]; exact hd), List.push_toArray]
              exact ⟨(ih _ _ _).1, fun e => let ⟨j, hj, q⟩ := (ih (i + 2) l _).2 e; ⟨j, by rw [List.length_cons, List.length_cons]; omega, q⟩⟩

theorem no_wide {x : Str} (h : (x.cps.any fun c => decide (128 ≤ c)) = false) : x.cps.findIdx? (fun c => decide (c ≥ 128)) = none := by
  rw [Array.findIdx?_eq_none_iff]
  intro c hc
  have := Array.any_eq_false.mp h
  obtain ⟨i, hi, rfl⟩ := Array.mem_iff_getElem.mp hc
  have := this i hi
  simpa using this
/-- octets from a text, by whatever way -/
theorem fh_way {x : Str} {f : Nat → Nat → List Nat → Array UInt8 → Except Nat (Array UInt8)} {z : Except Nat (Array UInt8)} (heq : f x.cps.size 0 x.cps.toList #[] = z)
    (all : ∀ m i l (o : List UInt8), (∀ b, hxL m l o = some b → f m i l o.toArray = .ok b.toArray) ∧ (hxL m l o = none → ∃ j, j ≤ i + l.length + 1 ∧ f m i l o.toArray = .error j)) :
    (∀ b, hxL x.cps.size x.cps.toList [] = some b → z = .ok b.toArray) ∧ (hxL x.cps.size x.cps.toList [] = none → ∃ j, j ≤ x.cps.toList.length + 1 ∧ z = .error j) :=
  ⟨fun b e => heq ▸ (all _ 0 _ []).1 b e, fun e => heq ▸ (let ⟨j, hj, q⟩ := (all _ 0 _ []).2 e; ⟨j, by omega, q⟩)⟩
def hexG (c : Nat) : Option Nat := if (48 ≤ c && c ≤ 57) = true then some (c - 48) else if (97 ≤ c && c ≤ 102) = true then some (c - 87) else if (65 ≤ c && c ≤ 70) = true then some (c - 55) else none
theorem fh_tree {x : Str} {t : Tok} {P : Fin → Shared → Prop} (hw : (x.cps.any fun c => decide (128 ≤ c)) = false)
    (ok : ∀ b, hxL x.cps.size x.cps.toList [] = some b → b.length ≤ 1000000 ∧ P (.done (.ret (.bytes b.toArray s.toks))) { s with toks := s.toks + 1 })
    (bad : hxL x.cps.size x.cps.toList [] = none → ∀ i : Nat, i ≤ x.cps.toList.length + 1 → wpAny M A (raiseErrorMade "ValueError" (toString "non-hexadecimal number found in fromhex() arg at position " ++ toString i) : Sem Fin) P E s) :
    wpAny M A (Builtin.«bytes.fromhex» ⟨[.type "bytes", .str x t], []⟩) P E s := by
  unfold Builtin.«bytes.fromhex» Builtin.Bytes.fromhexM
  refine wpAny_bind (wpAny_of_eq (a := "bytes") (by first | rfl | kernel_rfl) ?_)
  refine KFB.if_not rfl ?_
  refine wpAny_bind (wpAny_of_eq (a := some x) (by first | rfl | kernel_rfl) ?_)
  dsimp only
  rw [no_wide hw]
  dsimp only
  split
  all_goals
    rename_i z heq
    have key := fh_way heq (by
      refine fh_same _ hexG (fun _ => rfl) (fun _ _ _ => rfl) (fun _ _ _ => rfl) ?_ ?_ ?_ ?_ ?_
      · intro m i c l o hb; show (if _ = true then _ else _) = _; rw [if_pos hb]
      · intro m i c l o hb hg
        show (if _ = true then _ else _) = _
        rw [if_neg (by rw [hb]; exact Bool.false_ne_true)]
        split
        · rfl
        · rename_i q; cases (show hexG c = some _ from q).symm.trans hg
        · rename_i q; cases (show hexG c = some _ from q).symm.trans hg
      · intro m i c a o hb hg
        show (if _ = true then _ else _) = _
        rw [if_neg (by rw [hb]; exact Bool.false_ne_true)]
        split
        · rename_i q; cases (show hexG c = none from q).symm.trans hg
        · rfl
        · rename_i q; cases q
      · intro m i c a d l o hb hg hd
        show (if _ = true then _ else _) = _
        rw [if_neg (by rw [hb]; exact Bool.false_ne_true)]
        split
        · rename_i q; cases (show hexG c = none from q).symm.trans hg
        · rename_i q2; cases q2
        · rename_i q q2
          cases q2
          split
          · rfl
          · rename_i q3; cases (show hexG d = some _ from q3).symm.trans hd
      · intro m i c a d b l o hb hg hd
        show (if _ = true then _ else _) = _
        rw [if_neg (by rw [hb]; exact Bool.false_ne_true)]
        split
        · rename_i q; cases (show hexG c = none from q).symm.trans hg
        · rename_i q2; cases q2
        · rename_i q q2
          cases q2
          have e1 := (show hexG c = some _ from q).symm.trans hg
          cases e1
          split
          · rename_i q3; cases (show hexG d = none from q3).symm.trans hd
          · rename_i q3
            have e2 := (show hexG d = some _ from q3).symm.trans hd
            cases e2
            rfl)
    cases hmy : hxL x.cps.size x.cps.toList [] with
    | some b =>
      have kz := key.1 b hmy
      cases kz
      try
        obtain ⟨hl, hq⟩ := ok b hmy
        refine KFB.if_so (by decide +kernel) ?_
        show wpAny _ _ (mkBytes _ >>= _) _ _ _
        exact wpAny_bind (wpAny_mkBytes (wpAny_pure hq) (by rw [sizeLine_eq]; simp; omega))
    | none =>
      obtain ⟨j, hj, kz⟩ := key.2 hmy
      cases kz
      try exact wpAny_bind (wpAny_rule (bad hmy _ hj))
end Mine
end

/-! Bi9 -/
section
open PySem PySem.W PyProof.Rows
set_option maxRecDepth 100000
namespace Mine
variable {prog : Program} {w : World} {h₁ : Heap} {n : Nat} {A : Around} {s s' : Shared} {H H' : PHeap} {r : PV} {E : Value → Shared → Prop} {k : K} {Q : Value → Shared → Prop} {M : Model}

def bndH : Obj := { cls := .type "builtin_function_or_method", data := .fields #[.builtin "bytes.fromhex", .type "bytes"] }
theorem type_fh : typeOf (.builtin "bytes.fromhex") = pure (.type "classmethod_descriptor") := by show builtinType _ = _; rw [builtinType_eq_fast]; kernel_rfl
theorem entry_fh : entryFor table "bytes.fromhex" = some Builtin.«bytes.fromhex» := entryFor_of_tree (by kernel_rfl)
theorem quiet_fh {as : Args} : (Code.builtin "bytes.fromhex" as).quiet = true := Code.quiet_builtin _ (by decide +kernel)
theorem type_by : isType (.type "bytes") = pure true := by first | rfl | kernel_rfl | (unfold isType; rw [isSubtype_type]; kernel_rfl)
theorem sub_by : isSubtype (.type "bytes") (.type "bytes") = pure true := by rw [isSubtype_type]; kernel_rfl
theorem sub_own {x : String} (e : x = "bytes") : isSubtype (.type "bytes") (.type x) = pure true := e ▸ sub_by
theorem fh_get0 {P : Fin → Shared → Prop} (h : P (.done (.ret (.ref s.heap.objs.size))) { s with heap := s.heap.push bndH }) :
    wpAny M A (Builtin.«classmethod_descriptor.__get__» ⟨[.builtin "bytes.fromhex", .none, .type "bytes"], []⟩) P E s := by
  unfold Builtin.«classmethod_descriptor.__get__»
  refine wpAny_bind (wpAny_of_eq (a := (.builtin "bytes.fromhex", none, some (.type "bytes"))) (by first | rfl | kernel_rfl) ?_)
  refine wpAny_bind (wpAny_of_eq (a := .type "bytes") rfl ?_)
  refine wpAny_bind (wpAny_of_eq (a := true) type_by ?_)
  refine KFB.if_not rfl ?_
  refine wpAny_bind (wpAny_of_eq (a := true) (sub_own (by first | decide +kernel | kernel_rfl)) ?_)
  refine KFB.if_not rfl ?_
  exact wpAny_bind (wpAny_newObj_type (wpAny_pure h))
theorem fh_get {K : Frag} {pl : Sem Bool} {QQ : Value × List Value → Shared → Prop} (X : K.In s.heap)
    (e : findCls K (.type "bytes") (.type "type") (PySem.Str.ofString "fromhex") = some (.get (.builtin "classmethod_descriptor.__get__") (.builtin "bytes.fromhex") .none (.type "bytes")))
    (h : QQ (.ref s.heap.objs.size, []) { s with heap := s.heap.push bndH, toks := s.toks + 1 }) : wpAny (model prog w) A (getMethod (.type "bytes") (PySem.Str.ofString "fromhex") pl) QQ E s := by
  have hstub : opaqueClassAbove (.type "bytes") = pure none := by unfold opaqueClassAbove; dsimp only; rw [show Manifest.isStub "bytes" = false by decide +kernel]; rfl
  have ht : typeOf (.type "bytes") = pure (.type "type") := by first | rfl | kernel_rfl
  have L0 : Looks (model prog w) s.heap (typeOf (.type "bytes")) (.type "type") := Looks.of_pure ht
  have hg : findIn K (.type "type") "__getattribute__" = some (some (.builtin "type.__getattribute__")) := type_tga
  unfold getMethod specialOf
  refine wpAny_bind (wpAny_bind (L0.here ((looks_findIn X hg).here ?_)))
  dsimp only
  rw [if_pos canon_tga]
  refine wpAny_bind (wpAny_mono (Q := fun v => QQ (v, [])) (E := E) ?_ (fun _ _ z => wpAny_pure z) fun _ _ z => z)
  have LO : Looks (model prog w) s.heap (opaqueClassAbove (.type "bytes")) none := Looks.of_pure hstub
  refine cls_open X LO L0 hg (looks_hook X (r := none) (by rfl)) (by show subIn K _ _ = _; rfl) e ?_
  show wpAny _ _ (holding [.builtin "bytes.fromhex"] (call (.builtin "classmethod_descriptor.__get__") [.builtin "bytes.fromhex", .none, .type "bytes"]) >>= fun v => ret v) _ _ _
  exact wpAny_bind (wpAny_holding (wpAny_call_entry KFB.slot_get type_fh KFB.entry_get (fh_get0 ⟨_, rfl, wpAny_pure (wpAny_pure h)⟩) (KFB.args_get _ _ _)))
theorem keeper_bndH {h : Heap} {x : Addr} (ho : h.get? x = some bndH) : KeeperOk h (.ref x) := fun M => ⟨.machine, .inr (.inl rfl), fun A Q E s k q => by
  unfold keeperOf
  refine wpAny_bind (wpAny_load (k _ _ ho) ?_)
  simp only [bndH, show (Value.type "builtin_function_or_method" != Value.type "method") = true by decide, show (Value.type "builtin_function_or_method" == Value.type "builtin_function_or_method" || Value.type "builtin_function_or_method" == Value.type "method-wrapper") = true by decide, if_true]
  exact wpAny_pure q⟩
/-- the bound method's call -/
theorem fh_call {x : Addr} {y : Str} {t : Tok} {R : Result → Shared → Prop} (ho : s.heap.get? x = some bndH)
    (h : wpAny (model prog w) A.in1 (Builtin.«bytes.fromhex» ⟨[.type "bytes", .str y t], []⟩) (fun fin s' => ∃ v, fin = .done (.ret v) ∧ R (.ok (.ret v)) s') (fun e s' => R (.error e) s') s) :
    codeAny (model prog w) A (.call (.ref x) ⟨[.str y t], []⟩) R s := by
  refine codeAny_of_tree ?_
  show wpAny _ A.in1 (callAny (.ref x) ⟨[.str y t], []⟩) _ _ s
  simp only [callAny]
  refine wpAny_bind (wpAny_load ho ?_)
  simp only [bndH, show (Value.type "builtin_function_or_method" == Value.type "method" || Value.type "builtin_function_or_method" == Value.type "builtin_function_or_method" || Value.type "builtin_function_or_method" == Value.type "method-wrapper") = true by decide, if_true]
  refine KFB.if_so (by decide) ?_
  refine wpAny_bind (wpAny_of_eq (a := ()) (by first | kernel_rfl | rfl) ?_)
  refine wpAny_bind (wpAny_pure (wpAny_pure ?_))
  refine ⟨quiet_fh, codeAny_builtin entry_fh (wpAny_mono h (fun fin s' hq => ?_) fun _ _ e => e)⟩
  obtain ⟨v, rfl, hq⟩ := hq
  exact hq
def fhF : Fun := fun as ks k => match as, ks with
  | [.str x], [] => match hxS x with
    | some b => gate (lenOk b.length) (k (.bytes b))
    | none => none
  | _, _ => none
theorem fh_ok {K : Frag} (X : K.In h₁) (hf : findCls K (.type "bytes") (.type "type") (PySem.Str.ofString "fromhex") = some (.get (.builtin "classmethod_descriptor.__get__") (.builtin "bytes.fromhex") .none (.type "bytes"))) :
    MethOk prog w h₁ n (Str.ofString "fromhex") (.raw (.type "bytes")) fhF := by
  intro A E QQ pl s H v R g hv hq
  cases hv
  have nw := After.new (s := s) (H := H) (t := s.toks + 1) g.sub (.push _ _) (get_size_none _) (Heap.get?_push_size (h := s.heap) (o := bndH) rfl)
  refine fh_get (X.keeps g.keep) hf (hq _ _ _ _ nw (fun h kp => keeper_bndH (kp _ _ (Heap.get?_push_size _ rfl))) ?_)
  intro A' E' Q' s' H' args kws ps ks k r R' g' a ha hk e N
  have ho : s'.heap.get? s.heap.objs.size = some bndH := a.keep _ _ (Heap.get?_push_size _ rfl)
  unfold fhF at e
  split at e
  · rename_i x
    split at e
    · rename_i b hb
      obtain ⟨g1, e⟩ := gate_some e
      have g1 := lenOk_le g1
      cases hk
      cases ha with
      | cons hx ht =>
        cases ht
        cases hx
        refine wpAny_call (fh_call ho ?_)
        unfold hxS at hb
        cases hw : x.cps.any fun c => decide (128 ≤ c) with
        | true => rw [hw] at hb; cases hb
        | false =>
          rw [hw] at hb
          refine fh_tree hw (fun b' e' => ?_) fun e' => ?_
          · have : some b' = some b := e'.symm.trans hb
            cases this
            exact ⟨g1, _, rfl, next_flat g'.sub N (.bytes _ _) e⟩
          · have : (none : Option (List UInt8)) = some b := e'.symm.trans hb
            cases this
    · cases e
  · cases e
end Mine
end

/-! Tst -/
section
open PySem
set_option maxRecDepth 100000
namespace Mine
def pw : Program := PySem.Challenge.pw_ez0019_01
def fnIn (n : Str) : List Stmt → Option (Arguments × Scope × List Stmt)
  | [] => none
  | .FunctionDef m a b _ _ _ sc _ _ _ :: r => bif decide (m = n) then some (a, sc, b) else fnIn n r
  | _ :: r => fnIn n r
def fnOf? (n : Str) : Option (Arguments × Scope × List Stmt) := fnIn n pw.main.body
def dictIn (n : Str) : List Stmt → Option (List (Option Expr) × List Expr)
  | [] => none
  | .Assign [.Name x _] (.Dict ks vs _) _ :: r => bif decide (x = n) then some (ks, vs) else dictIn n r
  | _ :: r => dictIn n r
def isTab : List (Option Expr) → List Expr → List (Int × Str)
  | some (.Constant (.int i) _ _) :: ks, .Constant (.str x) _ _ :: vs => (i, x) :: isTab ks vs
  | _, _ => []
def sbTab : List (Option Expr) → List Expr → List (Str × List UInt8)
  | some (.Constant (.str i) _ _) :: ks, .Constant (.bytes x) _ _ :: vs => (i, x) :: sbTab ks vs
  | _, _ => []
def opName : List (Int × Str) := match dictIn (Str.ofString "OP_CODE_NAME_FROM_INT") pw.main.body with | some (a, b) => isTab a b | none => []
def opByte : List (Str × List UInt8) := match dictIn (Str.ofString "BYTE_FROM_OP_CODE_NAME") pw.main.body with | some (a, b) => sbTab a b | none => []
def opUnk : List (Str × List UInt8) := match dictIn (Str.ofString "_BYTE_FROM_UNKNOWN_OP_CODE_NAME") pw.main.body with | some (a, b) => sbTab a b | none => []
def sigName : List (Int × Str) := match dictIn (Str.ofString "_CORE_SIG_HASH_NAME") pw.main.body with | some (a, b) => isTab a b | none => []
def lookS {α : Type} : List (Str × α) → Str → Option α
  | [], _ => none
  | (y, a) :: r, x => bif decide (y = x) then some a else lookS r x
def gls : List (Str × PV) := [(Str.ofString "int", .raw (.type "int")), (Str.ofString "bool", .raw (.type "bool")), (Str.ofString "str", .raw (.type "str")), (Str.ofString "bytes", .raw (.type "bytes")),
  (Str.ofString "bytearray", .raw (.type "bytearray")), (Str.ofString "memoryview", .raw (.type "memoryview")), (Str.ofString "list", .raw (.type "list")), (Str.ofString "tuple", .raw (.type "tuple")),
  (Str.ofString "MAX_SCRIPT_SIZE", .int 10000), (Str.ofString "_MIN_SCRIPT_NUM", .int (-9223372036854775808)), (Str.ofString "_MAX_SCRIPT_NUM", .int 9223372036854775807), (Str.ofString "ERROR_COMMAND", .str (Str.ofString "[error]")),
  (Str.ofString "OP_CODE_NAME_FROM_INT", .dci opName), (Str.ofString "_CORE_SIG_HASH_NAME", .dci sigName), (Str.ofString "BYTE_FROM_OP_CODE_NAME", .dcs opByte), (Str.ofString "_BYTE_FROM_UNKNOWN_OP_CODE_NAME", .dcs opUnk)]
def fns : List (Str × Fun) := [(Str.ofString "len", lenF), (Str.ofString "bytes", bytesF), (Str.ofString "str", strF), (Str.ofString "range", rangeF), (Str.ofString "abs", absF), (Str.ofString "sum", sumF), (Str.ofString "isinstance", isiF)]
def mts (m : Str) : PV → Option Fun
  | .bytes b => lookS [(Str.ofString "hex", hexF b), (Str.ofString "join", bjoinF b)] m
  | .str x => lookS [(Str.ofString "upper", upF x), (Str.ofString "isascii", asciiF x), (Str.ofString "strip", stripF x), (Str.ofString "join", sjoinF x)] m
  | .int i => lookS [(Str.ofString "bit_length", bitF i), (Str.ofString "to_bytes", tobF i)] m
  | .dci d => lookS [(Str.ofString "get", getF d)] m
  | .raw (.type T) => bif decide (T = "int") then lookS [(Str.ofString "from_bytes", fbF)] m else bif decide (T = "bytes") then lookS [(Str.ofString "fromhex", fhF)] m else none
  | _ => none
def base : Tbl := ⟨lookS gls, lookS fns, mts⟩
def bindP (a : Arguments) (ps : List PV) (ks : List (Str × PV)) : List (Str × PV) := (a.args.map (·.arg)).zip ps ++ ks
def Tn : Nat → Tbl
  | 0 => base
  | d + 1 => { base with fn := fun f => match base.fn f with
    | some φ => some φ
    | none => match fnOf? f with
      | some (a, sc, b) => some (fun ps ks k => match run (Tn d) sc b (valsOf (bindP a ps ks)) with | some p => k p | none => none)
      | none => none }
def go (f : String) (ps : List PV) (ks : List (Str × PV) := []) : Option PV := match fnOf? (Str.ofString f) with
  | some (a, sc, b) => run (Tn 8) sc b (valsOf (bindP a ps ks))
  | none => none
def S (x : String) : PV := .str (Str.ofString x)
def isS (x : Option PV) : Bool := match x with | some _ => true | none => false
example : isS (go "decode_num" [.bytes [1, 130]]) = true := by kernel_rfl
example : go "encode_num" [.int (-300)] = some (.bytes [44, 129]) := by kernel_rfl
example : go "push_int" [.int (-1)] = some (S "OP_1NEGATE") := by kernel_rfl
example : go "push_int" [.int 7] = some (S "OP_7") := by kernel_rfl
example : go "push_int" [.int 17] = some (S "11") := by kernel_rfl
example : go "_core_op_code_name" [.int 118] = some (S "OP_DUP") := by kernel_rfl
example : go "_is_valid_signature_encoding" [.bytes [48, 6, 2, 1, 5, 2, 1, 5, 1]] = some (.bool true) := by kernel_rfl
example : go "read_op_code" [.bytes [2, 7, 7], .int 0] = some (.tup [.int 2, .int 3]) := by kernel_rfl
example : go "_push_size" [.bytes [76, 7, 7], .int 0] = some (.int 7) := by kernel_rfl
example : isS (go "script_to_asm" [.bytes [2, 7, 7, 118]] [(Str.ofString "attempt_sighash_decode", .bool true)]) = true := by kernel_rfl
end Mine
end

/-! Tab -/
section
open PySem PySem.W PyProof.Rows
set_option maxRecDepth 100000
namespace Mine
variable {prog : Program} {w : World} {h₁ : Heap} {n : Nat} {A : Around} {s s' : Shared} {H H' : PHeap} {r : PV} {E : Value → Shared → Prop} {k : K} {Q : Value → Shared → Prop} {T : Tbl}

theorem lookS_mem {α : Type} : ∀ {l : List (Str × α)} {x : Str} {a : α}, lookS l x = some a → (x, a) ∈ l
  | [], _, _, h => by cases h
  | (y, b) :: l, x, a, h => by
    unfold lookS at h
    cases q : decide (y = x) with
    | true =>
      rw [q] at h
      cases h
      rw [← of_decide_eq_true q]
      exact .head _
    | false => rw [q] at h; exact .tail _ (lookS_mem h)
theorem FunOk.more {m : Nat} {v : Value} {φ : Fun} (f : FunOk prog w h₁ n v φ) (h : n ≤ m) : FunOk prog w h₁ m v φ :=
  ⟨f.1, fun A E Q s H args kws ps ks k r R => f.2 A E Q s H args kws ps ks k r (R.less h)⟩
theorem FunOk.weak {v : Value} {φ ψ : Fun} (f : FunOk prog w h₁ n v ψ) (h : ∀ ps ks k r, φ ps ks k = some r → ψ ps ks k = some r) : FunOk prog w h₁ n v φ :=
  ⟨f.1, fun A E Q s H args kws ps ks k r R g ha hk e N => f.2 A E Q s H args kws ps ks k r R g ha hk (h _ _ _ _ e) N⟩
theorem MethOk.more {m : Nat} {nm : Str} {p : PV} {φ : Fun} (f : MethOk prog w h₁ n nm p φ) (h : n ≤ m) : MethOk prog w h₁ m nm p φ :=
  fun A E Q pl s H v R g hv hq => f A E Q pl s H v (R.less h) g hv fun fv first s' H' a hk M => hq fv first s' H' a hk fun A' E' Q' s2 H2 args kws ps ks k r R' => M A' E' Q' s2 H2 args kws ps ks k r (R'.less h)
theorem TblOk.more {m : Nat} (t : TblOk prog w h₁ n T) (h : n ≤ m) : TblOk prog w h₁ m T :=
  ⟨t.gl, fun f φ e => let ⟨a, v, b, c⟩ := t.fn f φ e; ⟨a, v, b, c.more h⟩, fun nm p φ e => (t.mt nm p φ e).more h⟩
def Tbl.add (T : Tbl) (f : Str) (φ : Fun) : Tbl := { T with fn := fun x => bif decide (f = x) then some φ else T.fn x }
theorem TblOk.add (t : TblOk prog w h₁ n T) {f : Str} {φ : Fun} {v : Value} (hn : nameOk f) (hg : GlobIs h₁ f v) (hf : FunOk prog w h₁ n v φ) : TblOk prog w h₁ n (T.add f φ) :=
  ⟨t.gl, fun x ψ e => by
    unfold Tbl.add at e
    dsimp only at e
    cases q : decide (f = x) with
    | true =>
      rw [q] at e
      cases e
      have := of_decide_eq_true q
      subst this
      exact ⟨hn, v, hg, hf⟩
    | false => rw [q] at e; exact t.fn x ψ e, t.mt⟩

/-- what the base table leans on -/
structure BaseFacts (prog : Program) (w : World) (h₁ : Heap) : Prop where
  gl : ∀ xp ∈ gls, nameOk xp.1 ∧ ∃ v, GlobIs h₁ xp.1 v ∧ Rep prog w h₁.get? v xp.2
  len : GlobIs h₁ (Str.ofString "len") (.builtin "len")
  bytes : GlobIs h₁ (Str.ofString "bytes") (.type "bytes")
  str : GlobIs h₁ (Str.ofString "str") (.type "str")
  range : GlobIs h₁ (Str.ofString "range") (.type "range")
  abs : GlobIs h₁ (Str.ofString "abs") (.builtin "abs")
  sum : GlobIs h₁ (Str.ofString "sum") (.builtin "sum")
  isi : GlobIs h₁ (Str.ofString "isinstance") (.builtin "isinstance")
  frag : ∃ K : Frag, K.In h₁ ∧ findCls K (.type "int") (.type "type") (PySem.Str.ofString "from_bytes") = some (.get (.builtin "classmethod_descriptor.__get__") (.builtin "int.from_bytes") .none (.type "int")) ∧
    findCls K (.type "bytes") (.type "type") (PySem.Str.ofString "fromhex") = some (.get (.builtin "classmethod_descriptor.__get__") (.builtin "bytes.fromhex") .none (.type "bytes"))
theorem base_mt (F : BaseFacts prog w h₁) : ∀ m p φ, mts m p = some φ → MethOk prog w h₁ n m p φ := by
  obtain ⟨K, X, hf1, hf2⟩ := F.frag
  intro m p φ e
  unfold mts at e
  split at e
  · have := lookS_mem e
    simp only [List.mem_cons, Prod.mk.injEq, List.not_mem_nil, or_false] at this
    rcases this with ⟨rfl, rfl⟩ | ⟨rfl, rfl⟩
    · exact hex_ok _
    · exact bjoin_ok _
  · have := lookS_mem e
    simp only [List.mem_cons, Prod.mk.injEq, List.not_mem_nil, or_false] at this
    rcases this with ⟨rfl, rfl⟩ | ⟨rfl, rfl⟩ | ⟨rfl, rfl⟩ | ⟨rfl, rfl⟩
    · exact up_ok _
    · exact ascii_ok _
    · exact strip_ok _
    · exact sjoin_ok _
  · have := lookS_mem e
    simp only [List.mem_cons, Prod.mk.injEq, List.not_mem_nil, or_false] at this
    rcases this with ⟨rfl, rfl⟩ | ⟨rfl, rfl⟩
    · exact bit_ok _
    · exact tob_ok _
  · have := lookS_mem e
    simp only [List.mem_cons, Prod.mk.injEq, List.not_mem_nil, or_false] at this
    obtain ⟨rfl, rfl⟩ := this
    exact get_ok _
  · rename_i T
    cases q : decide (T = "int") with
    | true =>
      rw [q] at e
      have := of_decide_eq_true q
      subst this
      have := lookS_mem e
      simp only [List.mem_cons, Prod.mk.injEq, List.not_mem_nil, or_false] at this
      obtain ⟨rfl, rfl⟩ := this
      exact fb_ok X hf1
    | false =>
      rw [q] at e
      cases q2 : decide (T = "bytes") with
      | true =>
        rw [q2] at e
        have := of_decide_eq_true q2
        subst this
        have := lookS_mem e
        simp only [List.mem_cons, Prod.mk.injEq, List.not_mem_nil, or_false] at this
        obtain ⟨rfl, rfl⟩ := this
        exact fh_ok X hf2
      | false => rw [q2] at e; cases e
  · cases e
theorem base_ok (F : BaseFacts prog w h₁) : TblOk prog w h₁ n base := by
  refine ⟨fun x p e => F.gl _ (lookS_mem e), fun f φ e => ?_, base_mt F⟩
  have := lookS_mem e
  simp only [fns, List.mem_cons, Prod.mk.injEq, List.not_mem_nil, or_false] at this
  rcases this with ⟨rfl, rfl⟩ | ⟨rfl, rfl⟩ | ⟨rfl, rfl⟩ | ⟨rfl, rfl⟩ | ⟨rfl, rfl⟩ | ⟨rfl, rfl⟩ | ⟨rfl, rfl⟩
  · exact ⟨by unfold nameOk; decide, _, F.len, len_ok⟩
  · exact ⟨by unfold nameOk; decide, _, F.bytes, bytes_ok⟩
  · exact ⟨by unfold nameOk; decide, _, F.str, str_ok⟩
  · exact ⟨by unfold nameOk; decide, _, F.range, range_ok⟩
  · exact ⟨by unfold nameOk; decide, _, F.abs, abs_ok⟩
  · exact ⟨by unfold nameOk; decide, _, F.sum, sum_ok⟩
  · exact ⟨by unfold nameOk; decide, _, F.isi, isi_ok⟩

/-! plain defs -/
structure DefAt (h₁ : Heap) (f : Str) (params : Arguments) (body : List Stmt) (sc : Scope) (fa : Addr) : Prop where
  glob : GlobIs h₁ f (.ref fa)
  there : ∃ o pm code doc dV kV, h₁.get? fa = some o ∧ o.data = .func { PySem.Calls.docDef f params body sc pm code doc with defaults := dV, kwdefaults := kV } ∧ h₁.CodeRec code f ∧
    (∀ (s : Shared) (vals : List Value) (kws : List (Str × Value)) (binds : List (Str × Value)), True)
theorem keeper_fn {h : Heap} {fa : Addr} {o : Obj} {fd : FuncData} (ho : h.get? fa = some o) (hd : o.data = .func fd) : KeeperOk h (.ref fa) := fun M => ⟨.frame, .inl rfl, fun A Q E s k q => by
  unfold keeperOf
  refine wpAny_bind (wpAny_load (k _ _ ho) ?_)
  rw [hd]
  exact wpAny_pure q⟩
/-- the contract of a def, from its body's reading -/
theorem def_ok (TO : TblOk prog w h₁ n T) {fa : Addr} {o : Obj} {f : Str} {params : Arguments} {body : List Stmt} {sc : Scope} {pm code doc : Value} {φ : Fun} (ho : h₁.get? fa = some o)
    (hd : o.data = .func (PySem.Calls.docDef f params body sc pm code doc)) (hcd : h₁.CodeRec code f) (hlim : h₁.NoLimit)
    (hbind : ∀ vals : List Value, vals.length = (params.args.map (·.arg)).length → bindArgs (PySem.Calls.docDef f params body sc pm code doc) ⟨vals, []⟩ = pure ((params.args.map (·.arg)).zip vals))
    (hsc : scOk sc (params.args.map (·.arg)) = true)
    (hφ : ∀ ps ks k r, φ ps ks k = some r → ks = [] ∧ ps.length = (params.args.map (·.arg)).length ∧ ∃ p, run T sc body (valsOf ((params.args.map (·.arg)).zip ps)) = some p ∧ k p = some r) : FunOk prog w h₁ (n + 1) (.ref fa) φ := by
  refine ⟨fun h kp => keeper_fn (kp _ _ ho) hd, fun A E Q s H args kws ps ks k r R g ha hk e N => ?_⟩
  obtain ⟨rfl, hl, p, hrun, he⟩ := hφ ps ks k r e
  cases hk
  have hlen := ha.length
  have zipR : ∀ (ns : List Str) (vs : List Value) (qs : List PV), RepL prog w H vs qs → RepK prog w H (ns.zip vs) (ns.zip qs) := by
    intro ns
    induction ns with
    | nil => intro vs qs _; exact .nil
    | cons x ns ih =>
      intro vs qs h
      cases h with
      | nil => exact .nil
      | cons a b => exact .cons a (ih _ _ b)
  have nms : ((params.args.map (·.arg)).zip ps).map (·.1) = params.args.map (·.arg) := by
    rw [List.map_fst_zip]
    omega
  exact run_call TO ho hd hlim hcd rfl rfl rfl rfl (by rw [nms]; exact hsc) (.of_eq (hbind args (by omega))) (zipR _ _ _ ha) hrun R g he N
end Mine
end

/-! Man1 -/
section
open PySem PySem.W PyProof.Rows
set_option maxRecDepth 100000
namespace Mine
variable {prog : Program} {w : World} {h₁ : Heap} {n : Nat} {sc csc : Scope} {env : PySem.Env} {A : Around} {s₀ s s' s'' : Shared} {H₀ H H' H'' : PHeap} {r : PV} {Mu Mu' Mu'' : Addr → Prop} {σ σ' : Vars} {E : Value → Shared → Prop} {T : Tbl} {ev : Ev}

/-! some statements by the interpreter, their ends told by P -/
open Classical in
theorem run_step {ex : Stmt → Vars → KS → Option PV} (S : SndX prog w h₁ n sc env s₀ H₀ ex) (R : Room n A) {ss : List Stmt} {P : Fl → Vars → Prop} {Q : Flow → Shared → Prop}
    (e : ∀ k : KS, (∀ f σ', P f σ' → k f σ' = some PV.none) → exList ex ss σ k = some PV.none) (b : FB prog w h₁ Mu sc env σ s₀ H₀ s H)
    (N : ∀ fl f σ' Mu' s' H', FB prog w h₁ Mu' sc env σ' s₀ H₀ s' H' → Step Mu s H Mu' s' H' → FlM fl f → P f σ' → Q fl s')
    (Nr : ∀ v p σ' s' H', After s₀ H₀ s' H' → Rep prog w H' v p → P (.ret p) σ' → Q (.ret v) s') : wpAny (model prog w) A (execs ss env) Q E s := by
  have yes : ∀ f σ', (if P f σ' then some PV.none else none) = some PV.none → P f σ' := fun f σ' h => by
    by_cases c : P f σ'
    · exact c
    · rw [if_neg c] at h; cases h
  refine exList_sound (r := PV.none) S R ss σ (fun f σ' => if P f σ' then some PV.none else none) Q Mu s H (e _ fun f σ' h => if_pos h) b ⟨fun fl f σ' Mu' s' H' b' st m h => ?_, fun v p σ' s' H' a hv h => ?_⟩
  · exact N fl f σ' Mu' s' H' b' st m (yes _ _ h)
  · exact Nr v p σ' s' H' a hv (yes _ _ h)
open Classical in
theorem stmt_step {ex : Stmt → Vars → KS → Option PV} (S : SndX prog w h₁ n sc env s₀ H₀ ex) (R : Room n A) {st : Stmt} {P : Fl → Vars → Prop} {Q : Flow → Shared → Prop}
    (e : ∀ k : KS, (∀ f σ', P f σ' → k f σ' = some PV.none) → ex st σ k = some PV.none) (b : FB prog w h₁ Mu sc env σ s₀ H₀ s H)
    (N : ∀ fl f σ' Mu' s' H', FB prog w h₁ Mu' sc env σ' s₀ H₀ s' H' → Step Mu s H Mu' s' H' → FlM fl f → P f σ' → Q fl s')
    (Nr : ∀ v p σ' s' H', After s₀ H₀ s' H' → Rep prog w H' v p → P (.ret p) σ' → Q (.ret v) s') : wpAny (model prog w) A (exec st env) Q E s := by
  have yes : ∀ f σ', (if P f σ' then some PV.none else none) = some PV.none → P f σ' := fun f σ' h => by
    by_cases c : P f σ'
    · exact c
    · rw [if_neg c] at h; cases h
  refine S st σ (fun f σ' => if P f σ' then some PV.none else none) PV.none A E Q Mu s H (e _ fun f σ' h => if_pos h) R b ⟨fun fl f σ' Mu' s' H' b' st m h => ?_, fun v p σ' s' H' a hv h => ?_⟩
  · exact N fl f σ' Mu' s' H' b' st m (yes _ _ h)
  · exact Nr v p σ' s' H' a hv (yes _ _ h)
open Classical in
/-- an expression's value by the interpreter -/
theorem eval_step {ev1 : Expr → K → Option PV} {ρ : Rd} (S : SndE prog w h₁ n env ρ ev1) (R : Room n A) {e : Expr} {P : PV → Prop} {Q : Value → Shared → Prop}
    (h : ∀ k : K, (∀ p, P p → k p = some PV.none) → ev1 e k = some PV.none) (g : Good prog w h₁ env ρ H s)
    (N : ∀ v p s' H', After s H s' H' → Rep prog w H' v p → P p → Q v s') : wpAny (model prog w) A (eval e env) Q E s := by
  refine S e (fun p => if P p then some PV.none else none) PV.none A E Q s H (h _ fun p hp => if_pos hp) R g fun v p s' H' a hv q => ?_
  by_cases c : P p
  · exact N v p s' H' a hv c
  · dsimp only at q; rw [if_neg c] at q; cases q
open Classical in
theorem test_step' {tr1 : Expr → (Bool → Option PV) → Option PV} {ρ : Rd} (S : SndT prog w h₁ n env ρ tr1) (R : Room n A) {e : Expr} {P : Bool → Prop} {Q : Bool → Shared → Prop}
    (h : ∀ k : Bool → Option PV, (∀ p, P p → k p = some PV.none) → tr1 e k = some PV.none) (g : Good prog w h₁ env ρ H s)
    (N : ∀ p s' H', After s H s' H' → P p → Q p s') : wpAny (model prog w) A (isTrue e env (eval e env)) Q E s := by
  refine S e (fun p => if P p then some PV.none else none) PV.none A E Q s H (h _ fun p hp => if_pos hp) R g fun p s' H' a q => ?_
  by_cases c : P p
  · exact N p s' H' a c
  · dsimp only at q; rw [if_neg c] at q; cases q

theorem execs_append {M : Model} {rest : List Stmt} {Q : Flow → Shared → Prop} (ss : List Stmt) (s : Shared) (h : wpAny M A (execs ss env) (fun f s' => match f with | .next => wpAny M A (execs rest env) Q E s' | f => Q f s') E s) : wpAny M A (execs (ss ++ rest) env) Q E s := by
  intro Γ p a
  have h1 := h Γ p a
  clear h
  induction ss generalizing p s with
  | nil => exact (show wpAny M A (execs rest env) Q E s by rw [execs_nil] at h1; exact h1) Γ p a
  | cons st ss ih =>
    show Sem.wp M Γ (execs (st :: (ss ++ rest)) env) _ _ p s
    rw [execs_cons, Sem.wp_bind'] at h1 ⊢
    refine Sem.wp_mono M Γ _ (fun f p' s' h' => ?_) (fun _ _ _ h' => h') _ _ h1
    cases f with
    | next => exact ih s' p' h'
    | _ => exact h'
/-- some statements by the interpreter, then the rest -/
theorem seg_step {ex : Stmt → Vars → KS → Option PV} (S : SndX prog w h₁ n sc env s₀ H₀ ex) (R : Room n A) {ss rest : List Stmt} {P : Fl → Vars → Prop} {Q : Flow → Shared → Prop}
    (e : ∀ k : KS, (∀ f σ', P f σ' → k f σ' = some PV.none) → exList ex ss σ k = some PV.none) (b : FB prog w h₁ Mu sc env σ s₀ H₀ s H)
    (N : ∀ fl f σ' Mu' s' H', FB prog w h₁ Mu' sc env σ' s₀ H₀ s' H' → Step Mu s H Mu' s' H' → FlM fl f → P f σ' → (match fl with | .next => wpAny (model prog w) A (execs rest env) Q E s' | f => Q f s'))
    (Nr : ∀ v p σ' s' H', After s₀ H₀ s' H' → Rep prog w H' v p → P (.ret p) σ' → Q (.ret v) s') : wpAny (model prog w) A (execs (ss ++ rest) env) Q E s :=
  execs_append ss s (run_step S R e b N Nr)

/-! a frame is opened -/
theorem frame_openF {fa : Addr} {fd : FuncData} {binds : List (Str × Value)} {pb : List (Str × PV)} {P : PySem.Env → Shared → Prop} (hlim : s.heap.NoLimit) (hglob : fd.globals = mainGlobals) (hblt : fd.builtins = builtinsNs)
    (hsc : scOk fd.scope (pb.map (·.1)) = true) (hr : RepK prog w H binds pb) (g : Base h₁ H s) (N : ∀ env Mu s₁, EnvOk fd.scope env → env.frame = some env.locals → FB prog w h₁ Mu fd.scope env (valsOf pb) s H s₁ H → P env s₁) :
    wpAny (model prog w) A.in1 (newFunctionEnv fd.scope fd.globals [] binds (fd.qualname ++ ".<locals>.") (some fa) fd.code none fd.builtins) (fun env s₂ => s₂.heap.NoLimit ∧ P env s₂) E s := by
  unfold scOk at hsc
  obtain ⟨hsc, h5⟩ := and_split hsc
  obtain ⟨hsc, h4⟩ := and_split hsc
  obtain ⟨hsc, h3⟩ := and_split hsc
  obtain ⟨h1, h2⟩ := and_split hsc
  have h1 := List.all_eq_true.mp h1
  have h2 := of_decide_eq_true h2
  have h3 := of_decide_eq_true h3
  have nms := repK_names hr
  have kinds : ∀ x ∈ binds, (stOk fd.scope x.1) = true := fun x hx => h1 _ (nms ▸ List.mem_map.mpr ⟨x, hx, rfl⟩)
  have kd : ∀ x, stOk fd.scope x = true → nameOk x ∧ (fd.scope.names.lookup x = some .local ∨ fd.scope.names.lookup x = some .cell) := by
    intro x h
    obtain ⟨ha, hb⟩ := and_split h
    obtain ⟨hb, hc⟩ := and_split hb
    refine ⟨⟨by simpa using hb, by simpa using hc⟩, ?_⟩
    split at ha
    · rename_i q; exact .inl q
    · rename_i q; exact .inr q
    · cases ha
  refine wpAny_newFunctionEnv_cells h3 (fun x hx => ?_) fun env he s₁ x => ?_
  · rcases (kd _ (kinds x hx)).2 with q | q
    · exact .inl q
    · exact .inr ⟨q, cellsFrom_has (.inl q)⟩
  subst he
  refine ⟨hlim.keeps x.toInCall.keep, ?_⟩
  generalize hEnv : newEnv fd.scope s.heap.objs.size fd.globals (cellsFrom (s.heap.objs.size + 1) fd.scope.names []) (fd.qualname ++ ".<locals>.") (some fa) fd.code none fd.builtins = env at x ⊢
  have hkind : ∀ y, env.kindOf y = fd.scope.names.lookup y := by intro y; rw [← hEnv]; rfl
  have ok : EnvOk fd.scope env := by
    refine ⟨⟨fun y e => (hkind y).trans e, fun y e => (hkind y).trans e⟩, fun y e => ?_, by rw [← hEnv]; exact h3, by rw [← hEnv]; exact hglob, by rw [← hEnv]; exact hblt, fun y e => (hkind y).trans e, fun y z c hy hz => ?_⟩
    · have : (env.cells.lookup y).isSome = true := by rw [← hEnv]; exact cellsFrom_has (.inl e)
      exact Option.isSome_iff_exists.mp this
    · exact name_of_addr x.apart (mem_of_lookup hy) (mem_of_lookup hz)
  have hL : s.heap.objs.size ≤ env.locals := x.toInCall.fresh
  have freshL : ∀ a, s.heap.objs.size ≤ a → s.heap.get? a = none := fun a ha => by
    cases q : s.heap.get? a with
    | none => rfl
    | some o' => exact absurd (Heap.lt_size q) (Nat.not_lt.mpr ha)
  let Mu : Addr → Prop := fun a => a = env.locals ∨ ∃ y c, env.cells.lookup y = some c ∧ a = c
  have MuF : ∀ a, Mu a → s.heap.get? a = none := by
    rintro a (rfl | ⟨y, c, hc, rfl⟩)
    · exact freshL _ hL
    · exact freshL _ (Nat.le_of_lt (Nat.lt_of_le_of_lt hL (x.above _ _ (mem_of_lookup hc))))
  have off : ∀ a, Mu a → H a = none := fun a ha => by
    cases q : H a with
    | none => rfl
    | some o => have := g.sub _ _ q; rw [MuF a ha] at this; cases this
  have same : Same s s₁ := by
    obtain ⟨h', tk, e⟩ := x.toInCall.same
    rw [e]; exact .upd _ _ _
  have fb : FB prog w h₁ Mu fd.scope env (valsOf pb) s H s₁ H := by
    refine ⟨⟨g, ⟨same, fun a o _ e => x.toInCall.keep a o e, fun a o e => x.toInCall.keep a o (g.sub a o e), fun _ _ e => e, fun _ _ e => .inl e, off, ?_⟩, ⟨.inl rfl, ⟨_, x.toInCall.ns⟩, fun y e => ?_, ok.inj⟩, ⟨fun y q e => ?_, fun y l e => ?_, fun y z l m a e => ?_⟩⟩, MuF⟩
    · rintro a (rfl | ⟨y, c, hc, rfl⟩)
      · obtain ⟨o, _, _, q, _⟩ := x.toInCall.ns; exact ⟨o, q⟩
      · obtain ⟨o, q, _⟩ := x.cell y _ hc; exact ⟨o, q⟩
    · obtain ⟨c, hc⟩ := ok.cells y e
      exact ⟨c, _, hc, .inr ⟨y, c, hc, rfl⟩, x.cell y c hc⟩
    · obtain ⟨v, hv, hrep⟩ := repK_get hr e
      obtain ⟨nk, hk⟩ := kd y (kinds _ hv)
      refine ⟨v, ⟨nk, ?_⟩, hrep⟩
      rcases hk with hk | hk
      · exact .inl ⟨(hkind y).trans hk, _, x.toInCall.ns, bindL_get (by rw [nms]; exact h2) hv ((hkind y).trans hk)⟩
      · obtain ⟨c, hc⟩ := ok.cells y hk
        have cc := x.cell y c hc
        rw [bindC_get (by rw [nms]; exact h2) hv ((hkind y).trans hk)] at cc
        exact .inr ⟨.inl ((hkind y).trans hk), c, hc, cc⟩
    · obtain ⟨p, hp⟩ := valsOf_val e; cases hp
    · obtain ⟨p, hp⟩ := valsOf_val e; cases hp
  exact N env Mu s₁ ok (by rw [← hEnv]; rfl) fb
theorem frame_open {fa : Addr} {fd : FuncData} {binds : List (Str × Value)} {pb : List (Str × PV)} {P : PySem.Env → Shared → Prop} (hlim : s.heap.NoLimit) (hglob : fd.globals = mainGlobals) (hblt : fd.builtins = builtinsNs)
    (hsc : scOk fd.scope (pb.map (·.1)) = true) (hr : RepK prog w H binds pb) (g : Base h₁ H s) (N : ∀ env Mu s₁, EnvOk fd.scope env → FB prog w h₁ Mu fd.scope env (valsOf pb) s H s₁ H → P env s₁) :
    wpAny (model prog w) A.in1 (newFunctionEnv fd.scope fd.globals [] binds (fd.qualname ++ ".<locals>.") (some fa) fd.code none fd.builtins) (fun env s₂ => s₂.heap.NoLimit ∧ P env s₂) E s :=
  frame_openF hlim hglob hblt hsc hr g fun env Mu s₁ ok _ fb => N env Mu s₁ ok fb


theorem code_openF' {fa : Addr} {o : Obj} {fd : FuncData} {body : List Stmt} {args : Args} {binds : List (Str × Value)} {pb : List (Str × PV)} {R : Result → Shared → Prop}
    (ho : s.heap.get? fa = some o) (hd : o.data = .func fd) (hlim : s'.heap.NoLimit) (hcd : s.heap.CodeRec fd.code fd.qualname) (hbody : fd.body = .stmts body) (hclo : fd.closure = []) (hglob : fd.globals = mainGlobals) (hblt : fd.builtins = builtinsNs)
    (hsc : scOk fd.scope (pb.map (·.1)) = true) (hb : ∀ {E : Value → Shared → Prop} {Q : List (Str × Value) → Shared → Prop}, Q binds s' → wpAny (model prog w) A.in1 (bindArgs fd args) Q E s) (hr : RepK prog w H binds pb) (Rm : Room (n + 1) A) (g : Base h₁ H s')
    (N : ∀ env Mu s₁, EnvOk fd.scope env → env.frame = some env.locals → Room n (A.deeper env) → FB prog w h₁ Mu fd.scope env (valsOf pb) s' H s₁ H → wpAny (model prog w) (A.deeper env) (execs body env) (fun f s' => R (.ok (.ret (match f with | .ret v => v | _ => .none))) s')
      (fun e s' => wpAny (model prog w) (A.deeper env) (leaving env e) (fun _ s'' => R (.error e) s'') (fun e' s'' => R (.error e') s'') s') s₁) : codeAny (model prog w) A (.call (.ref fa) args) R s := by
  have hsc' := hsc
  unfold scOk at hsc'
  obtain ⟨hsc', h5⟩ := and_split hsc'
  obtain ⟨hsc', h4⟩ := and_split hsc'
  refine codeAny_call_function Rm.lim ho hd (by simpa using h4) (by simpa using h5) hbody hcd (hb ?_)
  rw [hclo]
  exact frame_openF hlim hglob hblt hsc hr g fun env Mu s₁ ok hf fb => codeAny_func (N env Mu s₁ ok hf (Rm.deeper env) fb)
theorem code_open' {fa : Addr} {o : Obj} {fd : FuncData} {body : List Stmt} {args : Args} {binds : List (Str × Value)} {pb : List (Str × PV)} {R : Result → Shared → Prop}
    (ho : s.heap.get? fa = some o) (hd : o.data = .func fd) (hlim : s'.heap.NoLimit) (hcd : s.heap.CodeRec fd.code fd.qualname) (hbody : fd.body = .stmts body) (hclo : fd.closure = []) (hglob : fd.globals = mainGlobals) (hblt : fd.builtins = builtinsNs)
    (hsc : scOk fd.scope (pb.map (·.1)) = true) (hb : ∀ {E : Value → Shared → Prop} {Q : List (Str × Value) → Shared → Prop}, Q binds s' → wpAny (model prog w) A.in1 (bindArgs fd args) Q E s) (hr : RepK prog w H binds pb) (Rm : Room (n + 1) A) (g : Base h₁ H s')
    (N : ∀ env Mu s₁, EnvOk fd.scope env → Room n (A.deeper env) → FB prog w h₁ Mu fd.scope env (valsOf pb) s' H s₁ H → wpAny (model prog w) (A.deeper env) (execs body env) (fun f s' => R (.ok (.ret (match f with | .ret v => v | _ => .none))) s')
      (fun e s' => wpAny (model prog w) (A.deeper env) (leaving env e) (fun _ s'' => R (.error e) s'') (fun e' s'' => R (.error e') s'') s') s₁) : codeAny (model prog w) A (.call (.ref fa) args) R s :=
  code_openF' ho hd hlim hcd hbody hclo hglob hblt hsc hb hr Rm g fun env Mu s₁ ok _ R fb => N env Mu s₁ ok R fb
theorem code_open {fa : Addr} {o : Obj} {fd : FuncData} {body : List Stmt} {args : Args} {binds : List (Str × Value)} {pb : List (Str × PV)} {R : Result → Shared → Prop}
    (ho : s.heap.get? fa = some o) (hd : o.data = .func fd) (hlim : s.heap.NoLimit) (hcd : s.heap.CodeRec fd.code fd.qualname) (hbody : fd.body = .stmts body) (hclo : fd.closure = []) (hglob : fd.globals = mainGlobals) (hblt : fd.builtins = builtinsNs)
    (hsc : scOk fd.scope (pb.map (·.1)) = true) (hb : BindsTo s fd args binds) (hr : RepK prog w H binds pb) (Rm : Room (n + 1) A) (g : Base h₁ H s)
    (N : ∀ env Mu s₁, EnvOk fd.scope env → Room n (A.deeper env) → FB prog w h₁ Mu fd.scope env (valsOf pb) s H s₁ H → wpAny (model prog w) (A.deeper env) (execs body env) (fun f s' => R (.ok (.ret (match f with | .ret v => v | _ => .none))) s')
      (fun e s' => wpAny (model prog w) (A.deeper env) (leaving env e) (fun _ s'' => R (.error e) s'') (fun e' s'' => R (.error e') s'') s') s₁) : codeAny (model prog w) A (.call (.ref fa) args) R s :=
  code_open' ho hd hlim hcd hbody hclo hglob hblt hsc (fun q => hb _ _ _ _ q) hr Rm g N

/-! an object apart from the block is changed, before and now -/
theorem FB.poke (b : FB prog w h₁ Mu sc env σ s₀ H₀ s H) {I : Addr} {g₀ h' : Heap} {o' : Obj} {t : Nat} (hm : ¬ Mu I) (hH : H I = none) (hc : ∀ v, ¬ s.heap.IsCell I v)
    (h0 : ∀ c, c ≠ I → g₀.get? c = s₀.heap.get? c) (h0' : ∀ o, g₀.get? I = some o → o = o') (hs : ∀ c, c ≠ I → h'.get? c = s.heap.get? c) (hs' : h'.get? I = some o') :
    FB prog w h₁ Mu sc env σ { s₀ with heap := g₀ } H₀ { s with heap := h', toks := t } H := by
  have at' : ∀ c o, Mu c → s.heap.get? c = some o → h'.get? c = some o := fun c o q e => (hs c (fun z => hm (z ▸ q))).trans e
  have ns : ∀ m, s.heap.Ns env.locals m → h'.Ns env.locals m := fun m k => k.at' fun o e => at' _ o b.fm.loc e
  have ce : ∀ c v, s.heap.IsCell c v → h'.IsCell c v := fun c v k => by
    have ne : c ≠ I := fun z => hc v (z ▸ k)
    obtain ⟨o, ho, hd⟩ := k
    exact ⟨o, (hs c ne).trans ho, hd⟩
  have va : ∀ y v, VarIs env s.heap y v → VarIs env h' y v := fun y v ⟨ny, q⟩ => ⟨ny, q.imp (fun ⟨p, m, k, e⟩ => ⟨p, m, ns m k, e⟩) fun ⟨p, c, k, e⟩ => ⟨p, c, k, ce _ _ e⟩⟩
  have hH0 : H₀ I = none := by
    cases q : H₀ I with
    | none => rfl
    | some o => rw [b.mid.grow _ _ q] at hH; cases hH
  have base : Base h₁ H₀ { s₀ with heap := g₀ } := by
    refine ⟨fun a o e => ?_, b.base₀.seen, fun a o e => ?_⟩
    · have hne : a ≠ I := fun z => by rw [z] at e; rw [b.base₀.seen _ _ e] at hH0; cases hH0
      exact (h0 a hne).trans (b.base₀.keep a o e)
    · exact (h0 a fun z => by rw [z, hH0] at e; cases e).trans (b.base₀.sub a o e)
  refine ⟨⟨base, ?_, ⟨b.fm.loc, b.fm.ns.imp ns, fun y e => let ⟨c, v, h1, h2, h3⟩ := b.fm.cel y e; ⟨c, v, h1, h2, ce _ _ h3⟩, b.fm.apart⟩, ?_⟩, fun a ha => ?_⟩
  · refine ⟨⟨b.mid.same.1, b.mid.same.2⟩, fun a o q e => ?_, fun a o e => (hs a fun z => by rw [z, hH] at e; cases e).trans (b.mid.sub a o e), b.mid.grow, fun a o e => ?_, b.mid.off,
      fun a q => let ⟨o, e⟩ := b.mid.alive a q; ⟨o, at' a o q e⟩⟩
    · by_cases c : a = I
      · subst c; rw [h0' _ e]; exact hs'
      · exact (hs a c).trans (b.mid.keep a o q ((h0 a c).symm.trans e))
    · rcases b.mid.fresh a o e with z | z
      · exact .inl z
      · have hne : a ≠ I := fun y => by rw [y, hH] at e; cases e
        exact .inr ((h0 a hne).trans z)
  · refine ⟨fun x p e => let ⟨v, h1, h2⟩ := b.vars.val x p e; ⟨v, va _ _ h1, h2⟩, fun x l e => let ⟨c, vs, h1, h2, h3, h4⟩ := b.vars.own x l e; ⟨c, vs, va _ _ h1, h2, h3.at fun o q => at' c o h2 q, h4⟩, fun x y l m c ex ey hx hy => ?_⟩
    obtain ⟨c1, _, h1, _⟩ := b.vars.own x l ex
    obtain ⟨c2, _, h2, _⟩ := b.vars.own y m ey
    have e1 := (va _ _ h1).uniq hx
    have e2 := (va _ _ h2).uniq hy
    cases e1; cases e2
    exact b.vars.apart x y l m c ex ey h1 h2
  · have hne : a ≠ I := fun z => hm (z ▸ ha)
    exact (h0 a hne).trans (b.fresh a ha)
end Mine
end

/-! Kf -/
section
open PySem PySem.W PyProof.Rows
set_option maxRecDepth 100000
namespace Mine
variable {prog : Program} {w : World} {h₁ : Heap} {n : Nat} {A : Around} {s s' : Shared} {H H' : PHeap} {r : PV} {E : Value → Shared → Prop} {k : K} {Q : Value → Shared → Prop} {T : Tbl}

def fnK (K : Frag) (a : Addr) : FuncData := match K.lookup a with | some ⟨_, _, .func fd, _⟩ => fd | _ => default
def globK (K : Frag) (x : Str) : Addr := match PySem.W.nsIn K mainGlobals x with | some (some (.ref a)) => a | _ => 0
def fnB (K : Frag) (a : Addr) : Bool := match K.lookup a with
  | some ⟨_, _, .func fd, _⟩ => codeIn K fd.code fd.qualname && fd.closure.isEmpty && decide (fd.globals = mainGlobals) && decide (fd.builtins = builtinsNs)
  | _ => false
/-- a function of the top, as it lies -/
structure FnAt (K : Frag) (fa : Addr) (params : Arguments) (body : List Stmt) (sc : Scope) (fd : FuncData) : Prop where
  obj : ∃ oc od osl, K.lookup fa = some ⟨oc, od, .func fd, osl⟩
  code : codeIn K fd.code fd.qualname = true
  clo : fd.closure = []
  glob : fd.globals = mainGlobals
  blt : fd.builtins = builtinsNs
  params : fd.params = params
  body : fd.body = .stmts body
  scope : fd.scope = sc
theorem fnAt_of {K : Frag} {fa : Addr} {params : Arguments} {body : List Stmt} {sc : Scope} (h : fnB K fa = true) (hp : (fnK K fa).params = params) (hb : (fnK K fa).body = .stmts body) (hs : (fnK K fa).scope = sc) : FnAt K fa params body sc (fnK K fa) := by
  unfold fnB at h
  split at h
  · rename_i oc od fd osl q
    have e : fnK K fa = fd := by unfold fnK; rw [q]
    rw [e] at hp hb hs ⊢
    obtain ⟨h, h4⟩ := and_split h
    obtain ⟨h, h3⟩ := and_split h
    obtain ⟨h1, h2⟩ := and_split h
    exact ⟨⟨_, _, _, q⟩, h1, List.isEmpty_iff.mp h2, of_decide_eq_true h3, of_decide_eq_true h4, hp, hb, hs⟩
  · cases h
theorem FnAt.get {K : Frag} {fa : Addr} {params : Arguments} {body : List Stmt} {sc : Scope} {fd : FuncData} (F : FnAt K fa params body sc fd) (X : K.In h₁) : ∃ o, h₁.get? fa = some o ∧ o.data = .func fd := by
  obtain ⟨oc, od, osl, q⟩ := F.obj
  exact ⟨_, X _ _ q, rfl⟩
/-- what is given by place is bound by place -/
def Simple (params : Arguments) (names : List Str) : Prop := ∀ (fd : FuncData) (vals : List Value), fd.params = params → fd.defaults = .none → fd.kwdefaults = .none → vals.length = names.length → bindArgs fd ⟨vals, []⟩ = pure (names.zip vals)
theorem zipR {prog : Program} {w : World} {H : PHeap} : ∀ (ns : List Str) (vs : List Value) (qs : List PV), RepL prog w H vs qs → RepK prog w H (ns.zip vs) (ns.zip qs)
  | [], _, _, _ => .nil
  | x :: ns, _, _, .nil => .nil
  | x :: ns, _, _, .cons a b => .cons a (zipR ns _ _ b)
theorem fun_of (TO : TblOk prog w h₁ n T) {K : Frag} (X : K.In h₁) (lim : h₁.NoLimit) {fa : Addr} {params : Arguments} {body : List Stmt} {sc : Scope} {fd : FuncData} {names : List Str} {φ : Fun} (F : FnAt K fa params body sc fd)
    (hd : fd.defaults = .none) (hk : fd.kwdefaults = .none) (hb : Simple params names) (hsc : scOk sc names = true)
    (hφ : ∀ ps ks k r, φ ps ks k = some r → ks = [] ∧ ps.length = names.length ∧ ∃ p, run T sc body (valsOf (names.zip ps)) = some p ∧ k p = some r) : FunOk prog w h₁ (n + 1) (.ref fa) φ := by
  obtain ⟨o, ho, hod⟩ := F.get X
  refine ⟨fun h kp => keeper_fn (kp _ _ ho) hod, fun A E Q s H args kws ps ks k r R g ha hks e N => ?_⟩
  obtain ⟨rfl, hl, p, hrun, he⟩ := hφ ps ks k r e
  cases hks
  have hlen := ha.length
  have nms : (names.zip ps).map (·.1) = names := by
    rw [List.map_fst_zip]
    omega
  have hs := F.scope
  subst hs
  exact run_call TO ho hod lim (codeRec_of X F.code) F.body F.clo F.glob F.blt (by rw [nms]; exact hsc) (.of_eq (hb fd args F.params hd hk (by omega))) (zipR _ _ _ ha) hrun R g he N
/-- by name -/
structure DefK (K : Frag) (f : Str) (params : Arguments) (body : List Stmt) (sc : Scope) : Prop where
  name : PySem.W.nsIn K mainGlobals f = some (some (.ref (globK K f)))
  at_ : FnAt K (globK K f) params body sc (fnK K (globK K f))
  dfl : (fnK K (globK K f)).defaults = .none
  kdf : (fnK K (globK K f)).kwdefaults = .none
theorem glob_of {K : Frag} (X : K.In h₁) (ns : ∃ mg mb, h₁.Ns mainGlobals mg ∧ h₁.Ns builtinsNs mb) {x : Str} {v : Value} (e : PySem.W.nsIn K mainGlobals x = some (some v)) : GlobIs h₁ x v := by
  obtain ⟨mg, mb, G, B⟩ := ns
  exact ⟨mg, mb, G, B, .inl (mg_of X G e)⟩
theorem globB_of {K : Frag} (X : K.In h₁) (ns : ∃ mg mb, h₁.Ns mainGlobals mg ∧ h₁.Ns builtinsNs mb) {x : Str} {v : Value} (e : PySem.W.nsIn K mainGlobals x = some none) (e2 : PySem.W.nsIn K builtinsNs x = some (some v)) (e3 : ∀ mb, h₁.Ns builtinsNs mb → mb x = some v) : GlobIs h₁ x v := by
  obtain ⟨mg, mb, G, B⟩ := ns
  exact ⟨mg, mb, G, B, .inr ⟨mg_none_of X G e, e3 mb B⟩⟩
end Mine
end

/-! Str1 -/
section
open PySem PySem.W PyProof.Rows
set_option maxRecDepth 100000
namespace Mine
variable {prog : Program} {w : World} {h₁ : Heap} {n : Nat} {A : Around} {s s' : Shared} {H H' : PHeap} {r : PV} {E : Value → Shared → Prop} {K : Frag} {C x dx ba : Addr}

theorem store_dict {ox : Obj} {es : List DictEntry} {n : Nat} {name : Str} {v : Value} {Q : Unit → Shared → Prop} (X : K.In s.heap) (I : InstAt s.heap x ox C (some (dictOf es n))) (hd : ox.dict = some dx)
    (hs : findIn K (.ref C) "__setattr__" = some (some (.builtin "object.__setattr__"))) (hp : plainOver K C = true) (ht : takerIn K C name = some none) (hh : hasDictIn K C = true) (hl : (getL name es).isSome = true)
    (hz : (putL name (PyData.keyHash w.params name) (.str name (s.toks + 1)) v es).length ≤ 1000)
    (h : ∀ h' : Heap, (∀ c, c ≠ dx → h'.get? c = s.heap.get? c) → h'.get? dx = some (dictOf (putL name (PyData.keyHash w.params name) (.str name (s.toks + 1)) v es) (putN name es n)) → Q () { s with heap := h', toks := s.toks + 2 }) :
    wpAny (model prog w) A (setAttr (.ref x) name v) Q E s := by
  refine set_plain X I hs (osa_open (s := { s with toks := s.toks + 1 }) X I hp ht fun b => ?_)
  obtain ⟨cd, hc, hd'⟩ := any_some hh
  obtain ⟨hx, hcl, hn, hD⟩ := I
  obtain ⟨oc, odi, oda, osl⟩ := ox
  dsimp only at hcl hd hD
  subst hcl hd
  have e : Obj.putName name (PyData.keyHash w.params name) (.str name (s.toks + 1)) v (dictOf es n) = dictOf (putL name (PyData.keyHash w.params name) (.str name (s.toks + 1)) v es) (putN name es n) := putName_dict _ _ _ _ _ _
  have D' : (s.heap.update dx (Obj.putName name (PyData.keyHash w.params name) (.str name (s.toks + 1)) v)).get? dx = some (dictOf (putL name (PyData.keyHash w.params name) (.str name (s.toks + 1)) v es) (putN name es n)) := by
    have := Heap.get?_update_self (Obj.putName name (PyData.keyHash w.params name) (.str name (s.toks + 1)) v) hD (by rw [e]; rfl)
    rw [this, e]
  refine wpAny_bind (wpAny_pure (wpAny_bind (wpAny_bind (wpAny_loadPart hx (wpAny_bind (looks_clsIn (M := model prog w) X hc _ _ _ _ (fun _ _ e => e) ?_))))))
  rw [hd']
  refine wpAny_pure (a := some dx) (wpAny_bind (wpAny_pure (wpAny_bind ?_)))
  unfold nsSet
  refine wpAny_bind (wpAny_bind (wpAny_askSetting (wpAny_pure (wpAny_bind (wpAny_mkText (wpAny_bind (wpAny_loadPart hD ?_)))))))
  have c : (!es.toArray.any (·.key.isStr name) && es.toArray.any (·.refKey)) = false := by
    rw [← Array.any_toList, ← Array.any_toList]
    unfold getL at hl
    split at hl
    · rename_i en he
      rw [List.any_eq_true.mpr ⟨en, List.mem_of_find?_eq_some he, List.find?_some he⟩]; rfl
    · split at hl
      · cases hl
      · rename_i z; rw [Bool.not_eq_true] at z; rw [z, Bool.and_false]
  dsimp only
  rw [aRefKeyMayBeTheName_at, c]
  refine wpAny_updatePart hD ?_
  refine wpAny_bind (wpAny_lookBehind D' (pastItsLine_dict (by rw [List.size_toArray, sizeLine_eq]; omega)) ?_)
  exact wpAny_pure (h _ (fun b hb => Heap.get?_update_ne _ _ _ _ hb) D')

def esOf (g1 g2 : Int) (t1 t2 t3 : Tok) (ba : Addr) (p : Nat) : List DictEntry := [⟨g1, .str "_BytesIO__buf" t1, .ref ba⟩, ⟨g2, .str "_BytesIO__pos" t2, .int p t3⟩]
/-- a stream: its octets, and how many are read -/
structure StreamAt (C : Addr) (h : Heap) (x dx ba : Addr) (b : List UInt8) (p : Nat) : Prop where
  inst : h.get? x = some (instObj C dx)
  dict : ∃ g1 g2 t1 t2 t3, h.get? dx = some (dictOf (esOf g1 g2 t1 t2 t3 ba p) 2)
  buf : h.get? ba = some { cls := .type "bytearray", data := .bytearray b.toArray }
/-- what is known of the class -/
structure ClsK (K : Frag) (C fread fcheck : Addr) : Prop where
  get : plainGet K C "" = true
  dict : hasDictIn K C = true
  buf : findIn K (.ref C) "_BytesIO__buf" = some none
  pos : findIn K (.ref C) "_BytesIO__pos" = some none
  read : findIn K (.ref C) "read" = some (some (.ref fread))
  check : findIn K (.ref C) "_BytesIO__check" = some (some (.ref fcheck))
  readF : isFn K (.ref fread) = true
  checkF : isFn K (.ref fcheck) = true
  set : findIn K (.ref C) "__setattr__" = some (some (.builtin "object.__setattr__"))
  over : plainOver K C = true
  bufT : takerIn K C "_BytesIO__buf" = some none
  posT : takerIn K C "_BytesIO__pos" = some none
variable {b : List UInt8} {p : Nat} {fread fcheck : Addr}
theorem StreamAt.instAt (S : StreamAt C s.heap x dx ba b p) : ∃ g1 g2 t1 t2 t3, InstAt s.heap x (instObj C dx) C (some (dictOf (esOf g1 g2 t1 t2 t3 ba p) 2)) :=
  let ⟨g1, g2, t1, t2, t3, h⟩ := S.dict
  ⟨g1, g2, t1, t2, t3, S.inst, rfl, rfl, h⟩
theorem get_buf {expr : Bool} {Q : Value → Shared → Prop} (X : K.In s.heap) (Y : ClsK K C fread fcheck) (S : StreamAt C s.heap x dx ba b p) (h : Q (.ref ba) { s with toks := s.toks + 1 }) :
    wpAny (model prog w) A (getAttr (.ref x) "_BytesIO__buf" expr) Q E s := by
  obtain ⟨g1, g2, t1, t2, t3, I⟩ := S.instAt
  exact get_value X I (plainGet_of (name := "") Y.get).1 (findObj_own Y.dict Y.buf rfl (by kernel_rfl)) rfl h
theorem get_pos {expr : Bool} {Q : Value → Shared → Prop} (X : K.In s.heap) (Y : ClsK K C fread fcheck) (S : StreamAt C s.heap x dx ba b p) (h : ∀ t, Q (.int p t) { s with toks := s.toks + 1 }) :
    wpAny (model prog w) A (getAttr (.ref x) "_BytesIO__pos" expr) Q E s := by
  obtain ⟨g1, g2, t1, t2, t3, I⟩ := S.instAt
  exact get_value X I (plainGet_of (name := "") Y.get).1 (findObj_own Y.dict Y.pos rfl (by kernel_rfl)) rfl (h t3)
theorem meth_read {pl : Sem Bool} {Q : Value × List Value → Shared → Prop} (X : K.In s.heap) (Y : ClsK K C fread fcheck) (S : StreamAt C s.heap x dx ba b p) (h : Q (.ref fread, [.ref x]) s) :
    wpAny (model prog w) A (getMethod (.ref x) "read" pl) Q E s := by
  obtain ⟨g1, g2, t1, t2, t3, I⟩ := S.instAt
  exact method_fn X I (plainGet_of (name := "") Y.get).1 (plainGet_of (name := "") Y.get).2 Y.read (beq_iff_eq.mp Y.readF) (by kernel_rfl) h
theorem meth_check {pl : Sem Bool} {Q : Value × List Value → Shared → Prop} (X : K.In s.heap) (Y : ClsK K C fread fcheck) (S : StreamAt C s.heap x dx ba b p) (h : Q (.ref fcheck, [.ref x]) s) :
    wpAny (model prog w) A (getMethod (.ref x) "_BytesIO__check" pl) Q E s := by
  obtain ⟨g1, g2, t1, t2, t3, I⟩ := S.instAt
  exact method_fn X I (plainGet_of (name := "") Y.get).1 (plainGet_of (name := "") Y.get).2 Y.check (beq_iff_eq.mp Y.checkF) (by kernel_rfl) h
theorem set_pos {q : Nat} {t : Tok} {Q : Unit → Shared → Prop} (X : K.In s.heap) (Y : ClsK K C fread fcheck) (S : StreamAt C s.heap x dx ba b p)
    (h : ∀ h' : Heap, (∀ c, c ≠ dx → h'.get? c = s.heap.get? c) → StreamAt C h' x dx ba b q → Q () { s with heap := h', toks := s.toks + 2 }) : wpAny (model prog w) A (setAttr (.ref x) "_BytesIO__pos" (.int q t)) Q E s := by
  obtain ⟨g1, g2, t1, t2, t3, I⟩ := S.instAt
  have hd := I.dict
  have ne1 : x ≠ dx := fun z => by
    have := S.inst
    rw [z] at this
    rw [show s.heap.get? dx = _ from hd] at this
    cases this
  have ne2 : ba ≠ dx := fun z => by
    have := S.buf
    rw [z] at this
    rw [show s.heap.get? dx = _ from hd] at this
    have := congrArg (fun o : Option Obj => o.map Obj.cls) this
    simp at this
  refine store_dict X I rfl Y.set Y.over Y.posT Y.dict rfl (by show 2 ≤ 1000; decide) fun h' ho hx => h h' ho ⟨(ho x ne1).trans S.inst, ⟨g1, g2, t1, t2, t, hx⟩, (ho ba ne2).trans S.buf⟩
end Mine
end

/-! Sp1 -/
section
open PySem
set_option maxRecDepth 100000
namespace Mine

def scOf (n : String) : Scope := match fnOf? (Str.ofString n) with | some x => x.2.1 | none => default
def bodyOf (n : String) : List Stmt := match fnOf? (Str.ofString n) with | some x => x.2.2 | none => []
def argsOf (n : String) : List Str := match fnOf? (Str.ofString n) with | some x => x.1.args.map (·.arg) | none => []
def runF (T : Tbl) (n : String) (ps : List PV) : Option PV := run T (scOf n) (bodyOf n) (valsOf ((argsOf n).zip ps))

theorem gateT {b : Bool} {x : Option PV} (h : b = true) : gate b x = x := by rw [h]; rfl
theorem lenT {n : Nat} (h : n ≤ 1000000) : lenOk n = true := decide_eq_true h
theorem inBT {i : Int} (h0 : 0 ≤ i) (h1 : i < 256) : inB i = true := by unfold inB; rw [decide_eq_true h0, decide_eq_true h1]; rfl

/-! _law_laid -/
def laidB (b : List UInt8) : List UInt8 :=
  if b.length < 76 then b.length.toUInt8 :: b
  else if b.length < 256 then 76 :: b.length.toUInt8 :: b
  else 77 :: (b.length % 256).toUInt8 :: (b.length / 256).toUInt8 :: b
theorem laid_tree (b : List UInt8) : runF base "_law_laid" [.bytes b] =
   gate (lenOk b.length) (
     bif decide ((b.length : Int) < 76) then
       gate ((inB b.length && true) && lenOk 1) (gate (lenOk (1 + b.length)) (some (.bytes ([u8 b.length] ++ b))))
     else bif decide ((b.length : Int) < 256) then
       gate ((inB 76 && (inB b.length && true)) && lenOk 2) (gate (lenOk (2 + b.length)) (some (.bytes ([u8 76, u8 b.length] ++ b))))
     else gate ((inB 77 && (inB ((b.length : Int).fmod 256) && (inB ((b.length : Int).fdiv 256) && true))) && lenOk 3) (gate (lenOk (3 + b.length)) (some (.bytes ([u8 77, u8 ((b.length : Int).fmod 256), u8 ((b.length : Int).fdiv 256)] ++ b))))) := by kernel_rfl
theorem u8_nat (n : Nat) : u8 (n : Int) = n.toUInt8 := by unfold u8; rw [Int.toNat_natCast]
theorem fdivN (a b : Nat) : ((a : Int).fdiv (b : Int)) = ((a / b : Nat) : Int) := by
  rw [Int.fdiv_eq_ediv_of_nonneg _ (by omega)]; rfl
theorem fmodN (a b : Nat) : ((a : Int).fmod (b : Int)) = ((a % b : Nat) : Int) := by
  rw [Int.fmod_eq_emod_of_nonneg _ (by omega)]; rfl
theorem laid_run (b : List UInt8) (h : b.length < 65536) : runF base "_law_laid" [.bytes b] = some (.bytes (laidB b)) := by
  rw [laid_tree, gateT (lenT (by omega))]
  unfold laidB
  by_cases h1 : b.length < 76
  · rw [decide_eq_true (by omega), if_pos h1]
    show gate _ _ = _
    rw [gateT (by rw [inBT (by omega) (by omega)]; rfl), gateT (lenT (by omega)), u8_nat]
    rfl
  · rw [decide_eq_false (by omega), if_neg h1]
    by_cases h2 : b.length < 256
    · rw [decide_eq_true (by omega), if_pos h2]
      show gate _ _ = _
      rw [gateT (by rw [inBT (i := (b.length : Int)) (by omega) (by omega)]; rfl), gateT (lenT (by omega)), u8_nat]
      rfl
    · rw [decide_eq_false (by omega), if_neg h2]
      show gate _ _ = _
      have e1 := fmodN b.length 256
      have e2 := fdivN b.length 256
      rw [show ((b.length : Int).fmod 256) = ((b.length % 256 : Nat) : Int) from e1, show ((b.length : Int).fdiv 256) = ((b.length / 256 : Nat) : Int) from e2]
      rw [gateT (by rw [inBT (i := ((b.length % 256 : Nat) : Int)) (by omega) (by omega), inBT (i := ((b.length / 256 : Nat) : Int)) (by omega) (by omega)]; rfl), gateT (lenT (by omega)), u8_nat, u8_nat]
      rfl
end Mine
end

/-! Sp2 -/
section
open PySem
set_option maxRecDepth 100000
namespace Mine

def byteAt (b : List UInt8) (i : Int) (k : Int → Option PV) : Option PV :=
  bif decide (0 ≤ i) then gate (decide (i < b.length) && lenOk b.length) (k (b.getD i.toNat 0).toNat)
  else gate (decide (0 ≤ i + b.length) && lenOk b.length) (k (b.getD (i + b.length).toNat 0).toNat)
def cutAt (b : List UInt8) (lo hi : PV) (k : List UInt8 → Option PV) : Option PV :=
  match optI lo, optI hi with
  | some a, some c => gate (lenOk b.length) (k (cutL b a c))
  | _, _ => none
def pow2 (n : Int) (k : Int → Option PV) : Option PV := gate (decide (0 ≤ n) && decide (n ≤ 10000) && true) (k (2 ^ n.toNat))
def fromB (b : List UInt8) (k : Int → Option PV) : Option PV := gate (decide (b.length ≤ 8)) (k (leV b))
def lenB (b : List UInt8) (k : Int → Option PV) : Option PV := gate (lenOk b.length) (k b.length)

def rdT (b : List UInt8) (i : Int) : Option PV :=
  lenB b fun n => bif decide (n ≤ i) then some .none else byteAt b i fun w =>
  let fin := fun (stop : Int) => some (PV.tup [.int w, .int stop])
  let over := fun (stop : Int) => lenB b fun n => bif decide (n < stop) then some .none else fin stop
  bif decide (0 < w) then (bif decide (w ≤ 78) then
      (bif decide (75 < w) then pow2 (w - 76) fun size => lenB b fun n => bif decide (n < i + 1 + size) then some .none else
        cutAt b (.int (i + 1)) (.int (i + 1 + size)) fun c => fromB c fun dl => over (i + 1 + size + dl)
      else over (i + 1 + w)) else fin (i + 1)) else fin (i + 1)
theorem rd_tree (b : List UInt8) (i : Int) : runF base "read_op_code" [.bytes b, .int i] = rdT b i := by kernel_rfl

theorem lenB_ok {b : List UInt8} {k : Int → Option PV} (h : b.length ≤ 1000000) : lenB b k = k (b.length : Nat) := gateT (lenT h)
theorem byteAt_ok {b : List UInt8} {i : Nat} {k : Int → Option PV} (h : i < b.length) (hb : b.length ≤ 1000000) : byteAt b (i : Int) k = k ((b.getD i 0).toNat : Nat) := by
  unfold byteAt
  rw [decide_eq_true (by omega)]
  show gate _ _ = _
  rw [gateT (by rw [decide_eq_true (by omega), lenT hb]; rfl), Int.toNat_natCast]
theorem clip_nat (n a : Nat) : clipAt n (a : Int) = min a n := by
  unfold clipAt
  split <;> omega
theorem cut_nat {α : Type} (l : List α) (a c : Nat) : cutL l (some (a : Int)) (some (c : Int)) = (l.take c).drop a := by
  unfold cutL
  simp only [Option.elim_some, clip_nat]
  rw [List.drop_take]
  by_cases h : a ≤ l.length
  · rw [Nat.min_eq_left h]
    by_cases h2 : c ≤ l.length
    · rw [Nat.min_eq_left h2]
    · rw [Nat.min_eq_right (by omega : l.length ≤ c)]
      have e1 : (l.drop a).take (l.length - a) = l.drop a := List.take_of_length_le (by simp)
      have e2 : (l.drop a).take (c - a) = l.drop a := List.take_of_length_le (by simp; omega)
      rw [e1, e2]
  · rw [Nat.min_eq_right (by omega : l.length ≤ a)]
    have e1 : l.drop a = [] := List.drop_of_length_le (by omega)
    have e2 : l.drop l.length = [] := List.drop_of_length_le (Nat.le_refl _)
    rw [e1, e2]; simp
theorem cutAt_ok {b : List UInt8} {lo hi : Nat} {k : List UInt8 → Option PV} (hb : b.length ≤ 1000000) (h1 : lo ≤ 100000000) (h2 : hi ≤ 100000000) : cutAt b (.int (lo : Int)) (.int (hi : Int)) k = k ((b.take hi).drop lo) := by
  have o : ∀ n : Nat, n ≤ 100000000 → optI (.int (n : Int)) = some (some (n : Int)) := by
    intro n h
    show (bif decide ((n : Int).natAbs < 1000000000) then some (some (n : Int)) else none) = _
    rw [decide_eq_true (by omega)]; rfl
  unfold cutAt
  rw [o lo h1, o hi h2]
  dsimp only
  rw [gateT (lenT hb), cut_nat]
theorem pow2_ok {n : Nat} {k : Int → Option PV} (h : n ≤ 10000) : pow2 (n : Int) k = k ((2 ^ n : Nat) : Int) := by
  unfold pow2
  rw [gateT (by rw [decide_eq_true (by omega), decide_eq_true (by omega)]; rfl), Int.toNat_natCast]
  congr 1
theorem fromB_ok {b : List UInt8} {k : Int → Option PV} (h : b.length ≤ 8) : fromB b k = k (leV b : Nat) := gateT (decide_eq_true h)
theorem condT {p : Prop} [Decidable p] {α : Type} {a b : α} (h : p) : (bif decide p then a else b) = a := by rw [decide_eq_true h]; rfl
theorem condF {p : Prop} [Decidable p] {α : Type} {a b : α} (h : ¬ p) : (bif decide p then a else b) = b := by rw [decide_eq_false h]; rfl

/-- one word's reading: the word, and where it ends -/
def rdP (b : List UInt8) (i : Nat) : Option (Nat × Nat) :=
  if b.length ≤ i then none else
  let w := (b.getD i 0).toNat
  if 0 < w ∧ w ≤ 78 then
    if 75 < w then
      if b.length < i + 1 + 2 ^ (w - 76) then none
      else
        let stop := i + 1 + 2 ^ (w - 76) + leV ((b.take (i + 1 + 2 ^ (w - 76))).drop (i + 1))
        if b.length < stop then none else some (w, stop)
    else if b.length < i + 1 + w then none else some (w, i + 1 + w)
  else some (w, i + 1)
def pairP : Option (Nat × Nat) → PV
  | none => .none
  | some (w, s) => .tup [.int (w : Nat), .int (s : Nat)]
theorem leV_lt : ∀ l : List UInt8, leV l < 256 ^ l.length
  | [] => by simp [leV]
  | c :: l => by
    have := leV_lt l
    have hc := c.toNat_lt
    simp only [leV, List.length_cons, Nat.pow_succ]
    omega
theorem rd_run (b : List UInt8) (i : Nat) (hb : b.length ≤ 100000) (hi : i ≤ 100000) : runF base "read_op_code" [.bytes b, .int (i : Int)] = some (pairP (rdP b i)) := by
  rw [rd_tree]
  unfold rdT rdP
  rw [lenB_ok (by omega)]
  by_cases h1 : b.length ≤ i
  · rw [condT (by omega), if_pos h1]; rfl
  rw [condF (by omega), if_neg h1, byteAt_ok (by omega) (by omega)]
  generalize hw : (b.getD i 0).toNat = w
  have hwlt : w < 256 := by rw [← hw]; exact (b.getD i 0).toNat_lt
  dsimp only
  by_cases h2 : ¬ 0 < w
  · rw [condF (by omega), if_neg (by omega)]; rfl
  rw [condT (by omega)]
  by_cases h3 : ¬ w ≤ 78
  · rw [condF (by omega), if_neg (by omega)]; rfl
  rw [condT (by omega), if_pos (by omega)]
  by_cases h4 : 75 < w
  · rw [condT (by omega), if_pos h4, show (w : Int) - 76 = ((w - 76 : Nat) : Int) by omega, pow2_ok (by omega)]
    have hp : 2 ^ (w - 76) ≤ 4 := by
      have : w - 76 ≤ 2 := by omega
      exact Nat.pow_le_pow_right (by decide) this
    generalize 2 ^ (w - 76) = z at hp ⊢
    rw [lenB_ok (by omega)]
    by_cases h5 : b.length < i + 1 + z
    · rw [condT (by omega), if_pos h5]; rfl
    rw [condF (by omega), if_neg h5, show (i : Int) + 1 = ((i + 1 : Nat) : Int) by omega, show ((i + 1 : Nat) : Int) + (z : Int) = ((i + 1 + z : Nat) : Int) by omega, cutAt_ok (by omega) (by omega) (by omega), fromB_ok (by simp; omega), lenB_ok (by omega)]
    generalize leV ((b.take (i + 1 + z)).drop (i + 1)) = d
    by_cases h6 : b.length < i + 1 + z + d
    · rw [condT (by omega), if_pos h6]; rfl
    rw [condF (by omega), if_neg h6]
    show some (PV.tup [.int _, .int _]) = some (PV.tup [.int _, .int _])
    congr 6
  · rw [condF (by omega), if_neg h4, lenB_ok (by omega)]
    by_cases h6 : b.length < i + 1 + w
    · rw [condT (by omega), if_pos h6]; rfl
    rw [condF (by omega), if_neg h6]
    show some (PV.tup [.int _, .int _]) = some (PV.tup [.int _, .int _])
    congr 6
end Mine
end

/-! Sp3 -/
section
open PySem
set_option maxRecDepth 100000
namespace Mine

/-! _push_size -/
def psT (b : List UInt8) (i : Int) : Option PV := byteAt b i fun w => bif decide (w < 76) then some (.int w) else pow2 (w - 76) fun size => cutAt b (.int (i + 1)) (.int (i + 1 + size)) fun c => fromB c fun v => some (.int v)
theorem ps_tree (b : List UInt8) (i : Int) : runF base "_push_size" [.bytes b, .int i] = psT b i := by kernel_rfl

/-! _law_read -/
def idx3 (i : Int) (a c d : Option PV) : Option PV :=
  bif decide (0 ≤ i) then (bif decide (i = 0) then a else bif decide (i - 1 = 0) then c else bif decide (i - 1 - 1 = 0) then d else none)
  else (bif decide (-1 - i = 0) then d else bif decide (-1 - i - 1 = 0) then c else bif decide (-1 - i - 1 - 1 = 0) then a else none)
def term (b : List UInt8) (p : Int) (m : Int) (k : Int → Option PV) : Option PV := byteAt b p fun v => gate (small v && small m) (k (v * m))
def lrT (b : List UInt8) (i : Int) : Option PV := byteAt b i fun w =>
  let ret := some (PV.tup [.int w, .none, .int (i + 1)])
  let fin := fun (many begin_ : Int) => lenB b fun n => bif decide (begin_ + many ≤ n) then cutAt b (.int begin_) (.int (begin_ + many)) fun c => some (.tup [.int w, .bytes c, .int (begin_ + many)]) else some .none
  bif decide (w = 0) then ret else bif decide (78 < w) then ret else
  bif decide (75 < w) then idx3 (w - 76)
      (lenB b fun n => bif decide (n < i + 1 + 1) then some .none else term b (i + 1 + 0) 1 fun x0 => fin (0 + x0) (i + 1 + 1))
      (lenB b fun n => bif decide (n < i + 1 + 2) then some .none else term b (i + 1 + 0) 1 fun x0 => term b (i + 1 + 1) 256 fun x1 => fin (0 + x0 + x1) (i + 1 + 2))
      (lenB b fun n => bif decide (n < i + 1 + 4) then some .none else term b (i + 1 + 0) 1 fun x0 => term b (i + 1 + 1) 256 fun x1 => term b (i + 1 + 2) 65536 fun x2 => term b (i + 1 + 3) 16777216 fun x3 => fin (0 + x0 + x1 + x2 + x3) (i + 1 + 4))
  else fin w (i + 1)
theorem lr_tree (b : List UInt8) (i : Int) : runF base "_law_read" [.bytes b, .int i] = lrT b i := by kernel_rfl

/-! _core_op_code_name -/
def lookI (d : List (Int × Str)) (i : Int) (y : Str) : Str := match d.lookup i with | some x => x | none => y
def coT (i : Int) : Option PV :=
  bif decide (i = 79) then some (.str (Str.ofString "-1")) else
  let rest := bif decide (i = 255) then some (PV.str (Str.ofString "OP_INVALIDOPCODE")) else match opName.lookup i with | some x => some (.str x) | none => some (.str (Str.ofString "OP_UNKNOWN"))
  bif decide (81 ≤ i) then (bif decide (i ≤ 96) then gate (small (i - 80)) (some (.str (Str.ofString (toString (i - 80))))) else rest) else rest
theorem co_tree (i : Int) : runF base "_core_op_code_name" [.int i] = coT i := by kernel_rfl
end Mine
end

/-! Sp4 -/
section
open PySem
set_option maxRecDepth 100000
namespace Mine

def sl (b : List UInt8) (i m : Nat) : List UInt8 := (b.take (i + m)).drop i
theorem sl_zero (b : List UInt8) (i : Nat) : sl b i 0 = [] := by
  unfold sl; rw [List.drop_eq_nil_iff]; simp; omega
theorem sl_succ {b : List UInt8} {i m : Nat} (h : i < b.length) : sl b i (m + 1) = b.getD i 0 :: sl b (i + 1) m := by
  unfold sl
  rw [List.drop_eq_getElem_cons (by simp; omega)]
  congr 1
  · rw [List.getElem_take, List.getD_eq_getElem?_getD, List.getElem?_eq_getElem h]; rfl
  · congr 2; omega
theorem sl_len {b : List UInt8} {i m : Nat} (h : i + m ≤ b.length) : (sl b i m).length = m := by unfold sl; simp; omega
/-- one word as the law reads it: the word, its octets, where it ends -/
def opAt (b : List UInt8) (i : Nat) : Option (Nat × Option (List UInt8) × Nat) :=
  let w := (b.getD i 0).toNat
  if w = 0 ∨ 78 < w then some (w, none, i + 1)
  else if 75 < w then
    if b.length < i + 1 + 2 ^ (w - 76) then none
    else
      let many := leV (sl b (i + 1) (2 ^ (w - 76)))
      if i + 1 + 2 ^ (w - 76) + many ≤ b.length then some (w, some (sl b (i + 1 + 2 ^ (w - 76)) many), i + 1 + 2 ^ (w - 76) + many) else none
  else if i + 1 + w ≤ b.length then some (w, some (sl b (i + 1) w), i + 1 + w) else none
def tripP : Option (Nat × Option (List UInt8) × Nat) → PV
  | none => .none
  | some (w, none, e) => .tup [.int (w : Nat), .none, .int (e : Nat)]
  | some (w, some c, e) => .tup [.int (w : Nat), .bytes c, .int (e : Nat)]
theorem rd_op (b : List UInt8) (i : Nat) (h : i < b.length) : rdP b i = (opAt b i).map fun x => (x.1, x.2.2) := by
  unfold rdP opAt
  rw [if_neg (by omega)]
  generalize (b.getD i 0).toNat = w
  dsimp only
  by_cases h1 : w = 0 ∨ 78 < w
  · rw [if_neg (by omega), if_pos h1]; rfl
  rw [if_pos (by omega), if_neg h1]
  by_cases h2 : 75 < w
  · rw [if_pos h2, if_pos h2]
    by_cases h3 : b.length < i + 1 + 2 ^ (w - 76)
    · rw [if_pos h3, if_pos h3]; rfl
    rw [if_neg h3, if_neg h3]
    show (if b.length < i + 1 + 2 ^ (w - 76) + leV (sl b (i + 1) (2 ^ (w - 76))) then _ else _) = _
    by_cases h4 : b.length < i + 1 + 2 ^ (w - 76) + leV (sl b (i + 1) (2 ^ (w - 76)))
    · rw [if_pos h4, if_neg (by omega)]; rfl
    · rw [if_neg h4, if_pos (by omega)]; rfl
  · rw [if_neg h2, if_neg h2]
    by_cases h4 : b.length < i + 1 + w
    · rw [if_pos h4, if_neg (by omega)]; rfl
    · rw [if_neg h4, if_pos (by omega)]; rfl
theorem smallN {n : Nat} (h : n < 1000000) : small (n : Int) = true := decide_eq_true (by omega)
theorem term_ok {b : List UInt8} {p m : Nat} {k : Int → Option PV} (h : p < b.length) (hb : b.length ≤ 1000000) (hm : m ≤ 16777216) : term b (p : Int) (m : Int) k = k (((b.getD p 0).toNat * m : Nat) : Int) := by
  unfold term
  rw [byteAt_ok h hb, gateT (by
    have := (b.getD p 0).toNat_lt
    rw [show small (m : Int) = true from decide_eq_true (by omega), smallN (by omega)]; rfl)]
  congr 1
theorem lr_run (b : List UInt8) (i : Nat) (hb : b.length ≤ 100000) (hi : i < b.length) : runF base "_law_read" [.bytes b, .int (i : Int)] = some (tripP (opAt b i)) := by
  rw [lr_tree]
  unfold lrT opAt
  rw [byteAt_ok hi (by omega)]
  generalize hw : (b.getD i 0).toNat = w
  have hwlt : w < 256 := by rw [← hw]; exact (b.getD i 0).toNat_lt
  dsimp only
  have fin : ∀ many begin_ : Nat, many ≤ 10000000000 → begin_ ≤ 1000000 → (lenB b fun n => bif decide ((begin_ : Int) + (many : Int) ≤ n) then cutAt b (.int (begin_ : Int)) (.int ((begin_ : Int) + (many : Int))) fun c => some (PV.tup [.int (w : Int), .bytes c, .int ((begin_ : Int) + (many : Int))]) else some .none) =
      some (tripP (if begin_ + many ≤ b.length then some (w, some (sl b begin_ many), begin_ + many) else none)) := by
    intro many begin_ h1 h2
    rw [lenB_ok (by omega)]
    by_cases h : begin_ + many ≤ b.length
    · rw [condT (by omega), if_pos h, show (begin_ : Int) + (many : Int) = ((begin_ + many : Nat) : Int) by omega, cutAt_ok (by omega) (by omega) (by omega)]
      rfl
    · rw [condF (by omega), if_neg h]; rfl
  by_cases h1 : w = 0
  · rw [condT (by omega), if_pos (.inl h1)]; rfl
  rw [condF (by omega)]
  by_cases h2 : 78 < w
  · rw [condT (by omega), if_pos (.inr h2)]; rfl
  rw [condF (by omega), if_neg (by omega)]
  by_cases h3 : ¬ 75 < w
  · rw [condF (by omega), if_neg h3, show (i : Int) + 1 = ((i + 1 : Nat) : Int) by omega]
    exact fin w (i + 1) (by omega) (by omega)
  rw [condT (by omega), if_pos (by omega)]
  unfold idx3
  rw [condT (by omega)]
  have sz : ∀ z : Nat, (lenB b fun n => bif decide (n < (i : Int) + 1 + (z : Int)) then some PV.none else some .none) = some .none := by
    intro z; rw [lenB_ok (by omega)]; cases decide (((b.length : Nat) : Int) < (i : Int) + 1 + (z : Int)) <;> rfl
  have e1 : (i : Int) + 1 = ((i + 1 : Nat) : Int) := by omega
  have e2 : (i : Int) + 1 + 1 = ((i + 2 : Nat) : Int) := by omega
  have e3 : (i : Int) + 1 + 2 = ((i + 3 : Nat) : Int) := by omega
  have e4 : (i : Int) + 1 + 3 = ((i + 4 : Nat) : Int) := by omega
  have e5 : (i : Int) + 1 + 4 = ((i + 5 : Nat) : Int) := by omega
  have e0 : (i : Int) + 1 + 0 = ((i + 1 : Nat) : Int) := by omega
  have lt : ∀ j, (b.getD j 0).toNat < 256 := fun j => (b.getD j 0).toNat_lt
  have hc : w = 76 ∨ w = 77 ∨ w = 78 := by omega
  rcases hc with rfl | rfl | rfl
  · rw [condT (by omega), lenB_ok (by omega), e2]
    show (bif _ then _ else _) = some (tripP (if b.length < i + 1 + 1 then _ else if i + 1 + 1 + leV (sl b (i + 1) 1) ≤ b.length then some (76, some (sl b (i + 1 + 1) (leV (sl b (i + 1) 1))), i + 1 + 1 + leV (sl b (i + 1) 1)) else none))
    by_cases h5 : b.length < i + 1 + 1
    · rw [condT (by omega), if_pos h5]; rfl
    rw [condF (by omega), if_neg h5, e0, show (1 : Int) = ((1 : Nat) : Int) from rfl, term_ok (by omega) (by omega) (by omega)]
    have es : leV (sl b (i + 1) 1) = (b.getD (i + 1) 0).toNat * 1 := by rw [sl_succ (by omega), sl_zero]; simp [leV]
    rw [es, show (0 : Int) + (((b.getD (i + 1) 0).toNat * 1 : Nat) : Int) = (((b.getD (i + 1) 0).toNat * 1 : Nat) : Int) by omega]
    have := lt (i + 1)
    exact fin _ (i + 2) (by omega) (by omega)
  · rw [condF (by omega), condT (by omega), lenB_ok (by omega), e3]
    show (bif _ then _ else _) = some (tripP (if b.length < i + 1 + 2 then _ else if i + 1 + 2 + leV (sl b (i + 1) 2) ≤ b.length then some (77, some (sl b (i + 1 + 2) (leV (sl b (i + 1) 2))), i + 1 + 2 + leV (sl b (i + 1) 2)) else none))
    by_cases h5 : b.length < i + 1 + 2
    · rw [condT (by omega), if_pos h5]; rfl
    rw [condF (by omega), if_neg h5, e0, e2, show (1 : Int) = ((1 : Nat) : Int) from rfl, show (256 : Int) = ((256 : Nat) : Int) from rfl, term_ok (by omega) (by omega) (by omega), term_ok (by omega) (by omega) (by omega)]
    have es : leV (sl b (i + 1) 2) = (b.getD (i + 1) 0).toNat * 1 + (b.getD (i + 2) 0).toNat * 256 := by
      rw [sl_succ (by omega), show i + 1 + 1 = i + 2 from rfl, sl_succ (by omega), sl_zero]; simp only [leV]; omega
    have l1 := lt (i + 1)
    have l2 := lt (i + 2)
    rw [es]
    generalize (b.getD (i + 1) 0).toNat = x0 at *
    generalize (b.getD (i + 2) 0).toNat = x1 at *
    rw [show (0 : Int) + ((x0 * 1 : Nat) : Int) + ((x1 * 256 : Nat) : Int) = ((x0 * 1 + x1 * 256 : Nat) : Int) by omega]
    exact fin _ (i + 3) (by omega) (by omega)
  · rw [condF (by omega), condF (by omega), condT (by omega), lenB_ok (by omega), e5]
    show (bif _ then _ else _) = some (tripP (if b.length < i + 1 + 4 then _ else if i + 1 + 4 + leV (sl b (i + 1) 4) ≤ b.length then some (78, some (sl b (i + 1 + 4) (leV (sl b (i + 1) 4))), i + 1 + 4 + leV (sl b (i + 1) 4)) else none))
    by_cases h5 : b.length < i + 1 + 4
    · rw [condT (by omega), if_pos h5]; rfl
    rw [condF (by omega), if_neg h5, e0, e2, e3, e4, show (1 : Int) = ((1 : Nat) : Int) from rfl, show (256 : Int) = ((256 : Nat) : Int) from rfl, show (65536 : Int) = ((65536 : Nat) : Int) from rfl, show (16777216 : Int) = ((16777216 : Nat) : Int) from rfl,
      term_ok (by omega) (by omega) (by omega), term_ok (by omega) (by omega) (by omega), term_ok (by omega) (by omega) (by omega), term_ok (by omega) (by omega) (by omega)]
    have es : leV (sl b (i + 1) 4) = (b.getD (i + 1) 0).toNat * 1 + (b.getD (i + 2) 0).toNat * 256 + (b.getD (i + 3) 0).toNat * 65536 + (b.getD (i + 4) 0).toNat * 16777216 := by
      rw [sl_succ (by omega), show i + 1 + 1 = i + 2 from rfl, sl_succ (by omega), show i + 2 + 1 = i + 3 from rfl, sl_succ (by omega), show i + 3 + 1 = i + 4 from rfl, sl_succ (by omega), sl_zero]; simp only [leV]; omega
    have l1 := lt (i + 1)
    have l2 := lt (i + 2)
    have l3 := lt (i + 3)
    have l4 := lt (i + 4)
    rw [es]
    generalize (b.getD (i + 1) 0).toNat = x0 at *
    generalize (b.getD (i + 2) 0).toNat = x1 at *
    generalize (b.getD (i + 3) 0).toNat = x2 at *
    generalize (b.getD (i + 4) 0).toNat = x3 at *
    rw [show (0 : Int) + ((x0 * 1 : Nat) : Int) + ((x1 * 256 : Nat) : Int) + ((x2 * 65536 : Nat) : Int) + ((x3 * 16777216 : Nat) : Int) = ((x0 * 1 + x1 * 256 + x2 * 65536 + x3 * 16777216 : Nat) : Int) by omega]
    exact fin _ (i + 5) (by omega) (by omega)
end Mine
end

/-! Sp5 -/
section
open PySem
set_option maxRecDepth 100000
namespace Mine

def tb (l : List (Str × Fun)) : Tbl := { base with fn := fun x => match lookS l x with | some φ => some φ | none => base.fn x }
def lrF : Fun := fun as ks k => match as, ks with
  | [.bytes b, .int i], [] => gate (decide (0 ≤ i) && decide (i.toNat < b.length) && decide (b.length ≤ 100000)) (match opAt b i.toNat with
    | none => k .none
    | some (w, none, e) => k (.tup [.int (w : Nat), .none, .int (e : Nat)])
    | some (w, some c, e) => k (.tup [.int (w : Nat), .bytes c, .int (e : Nat)]))
  | _, _ => none
def nm (x : String) : Str := Str.ofString x
def T1 : Tbl := tb [(nm "_law_read", lrF)]
def whIn : List Stmt → Option (Expr × List Stmt)
  | [] => none
  | .While t b _ _ :: _ => some (t, b)
  | _ :: r => whIn r
def whT (n : String) : Expr := match whIn (bodyOf n) with | some x => x.1 | none => default
def whB (n : String) : List Stmt := match whIn (bodyOf n) with | some x => x.2 | none => []
/-- a function's loop, as the interpreter runs it -/
def loopK (T : Tbl) (n : String) (m : Nat) (σ : Vars) (k : KS) : Option PV := whileK (fun σ k => (evN T 16).tr (scOf n) (whT n) (rdA σ) k) (exList (exN T (scOf n) 16 4000 7) (whB n)) m σ k

theorem exList_append {ex : Stmt → Vars → KS → Option PV} : ∀ (l₁ l₂ : List Stmt) (σ : Vars) (k : KS), exList ex (l₁ ++ l₂) σ k = exList ex l₁ σ fun f σ' => match f with
    | .next => exList ex l₂ σ' k
    | .brk => k .brk σ'
    | .cnt => k .cnt σ'
    | .ret p => k (.ret p) σ'
  | [], l₂, σ, k => rfl
  | s :: l₁, l₂, σ, k => by
    show ex s σ _ = ex s σ _
    congr 1
    funext f σ'
    cases f with
    | next => exact exList_append l₁ l₂ σ' k
    | _ => rfl
def kEnd : KS := fun f _ => match f with
  | .ret p => some p
  | .next => some .none
  | _ => none
theorem while_at (T : Tbl) (sc : Scope) (m w d : Nat) (t : Expr) (b : List Stmt) (p : Pos) (rest : List Stmt) (σ : Vars) (k : KS) : exList (exN T sc m w (d + 1)) (.While t b [] p :: rest) σ k =
    whileK (fun σ k => (evN T m).tr sc t (rdA σ) k) (exList (exN T sc m w d) b) w σ (fun f σ' => match f with
      | .next => exList (exN T sc m w (d + 1)) rest σ' k
      | .brk => k .brk σ'
      | .cnt => k .cnt σ'
      | .ret p => k (.ret p) σ') := rfl
/-- from a loop's start -/
theorem loop_at {T : Tbl} {n : String} {kf : KS} {i : Nat} {p : Pos} (σ : Vars) (hs : (bodyOf n).drop i = .While (whT n) (whB n) [] p :: (bodyOf n).drop (i + 1)) (hk : ∀ f σ, kf f σ = match f with
    | .next => exList (exN T (scOf n) 16 4000 8) ((bodyOf n).drop (i + 1)) σ kEnd
    | .brk => kEnd .brk σ
    | .cnt => kEnd .cnt σ
    | .ret p => kEnd (.ret p) σ) : exList (exN T (scOf n) 16 4000 8) ((bodyOf n).drop i) σ kEnd = loopK T n 4000 σ kf := by
  rw [hs]
  refine (while_at T (scOf n) 16 4000 7 _ _ p _ σ kEnd).trans ?_
  unfold loopK
  congr 1
  funext f σ
  exact (hk f σ).symm
theorem loop_start {T : Tbl} {n : String} {kf : KS} {p : Pos} (i : Nat) {σ σ' : Vars} (h0 : ∀ k, exList (exN T (scOf n) 16 4000 8) ((bodyOf n).take i) σ k = k .next σ') (hs : (bodyOf n).drop i = .While (whT n) (whB n) [] p :: (bodyOf n).drop (i + 1)) (hk : ∀ f σ, kf f σ = match f with
    | .next => exList (exN T (scOf n) 16 4000 8) ((bodyOf n).drop (i + 1)) σ kEnd
    | .brk => kEnd .brk σ
    | .cnt => kEnd .cnt σ
    | .ret p => kEnd (.ret p) σ) : run T (scOf n) (bodyOf n) σ = loopK T n 4000 σ' kf := by
  show exList _ (bodyOf n) σ kEnd = _
  conv => lhs; rw [← List.take_append_drop i (bodyOf n)]
  rw [exList_append, h0]
  exact loop_at σ' hs hk
def itemP : Nat × Option (List UInt8) × Nat × Nat → PV
  | (w, none, i, e) => .tup [.int (w : Nat), .none, .int (i : Nat), .int (e : Nat)]
  | (w, some c, i, e) => .tup [.int (w : Nat), .bytes c, .int (i : Nat), .int (e : Nat)]
def laA (b : List UInt8) (found : List PV) (i : Int) (rest : Vars) : Vars := (nm "code", .val (.bytes b)) :: (nm "found", .own found) :: (nm "at", .val (.int i)) :: rest
def laKf : KS := fun f σ => match f with
  | .next => exList (exN T1 (scOf "_law_all") 16 4000 8) ((bodyOf "_law_all").drop 2) σ fun f _ => match f with
    | .ret p => some p
    | .next => some .none
    | _ => none
  | .ret p => some p
  | _ => none
theorem la_pos : ∃ p, (bodyOf "_law_all").drop 1 = .While (whT "_law_all") (whB "_law_all") [] p :: (bodyOf "_law_all").drop 2 := ⟨_, by with_unfolding_all rfl⟩
theorem la_start (b : List UInt8) : runF T1 "_law_all" [.bytes b] = loopK T1 "_law_all" 4000 (laA b [] 0 []) laKf := by
  obtain ⟨p, e⟩ := la_pos
  exact loop_start 1 (σ := valsOf [(nm "code", .bytes b)]) (fun k => by kernel_rfl) e fun f σ => by cases f <;> rfl
theorem la_step (m : Nat) (b : List UInt8) (found : List PV) (i : Int) (o : Option PV) : loopK T1 "_law_all" (m + 1) (laA b found i (match o with | none => [] | some p => [(nm "one", .val p)])) laKf =
    lenB b fun n => bif decide (i < n) then gate (decide (0 ≤ i) && decide (i.toNat < b.length) && decide (b.length ≤ 100000)) (match opAt b i.toNat with
      | none => some (.tup [.lst found, .int i, .bool true])
      | some (w, none, e) => gate (lenOk found.length) (loopK T1 "_law_all" m (laA b (found ++ [.tup [.int (w : Nat), .none, .int i, .int (e : Nat)]]) (e : Nat) [(nm "one", .val (.tup [.int (w : Nat), .none, .int (e : Nat)]))]) laKf)
      | some (w, some c, e) => gate (lenOk found.length) (loopK T1 "_law_all" m (laA b (found ++ [.tup [.int (w : Nat), .bytes c, .int i, .int (e : Nat)]]) (e : Nat) [(nm "one", .val (.tup [.int (w : Nat), .bytes c, .int (e : Nat)]))]) laKf)) else some (.tup [.lst found, .int i, .bool false]) := by
  cases o <;> kernel_rfl

abbrev Item := Nat × Option (List UInt8) × Nat × Nat
def walk (b : List UInt8) : Nat → Nat → List Item × Nat × Bool
  | 0, i => ([], i, false)
  | m + 1, i => if i < b.length then (match opAt b i with
    | none => ([], i, true)
    | some (w, c, e) => ((w, c, i, e) :: (walk b m e).1, (walk b m e).2)) else ([], i, false)
theorem opAt_bound {b : List UInt8} {i w e : Nat} {c : Option (List UInt8)} (hi : i < b.length) (h : opAt b i = some (w, c, e)) : i < e ∧ e ≤ b.length := by
  unfold opAt at h
  dsimp only at h
  split at h
  · cases h; omega
  · split at h
    · split at h
      · cases h
      · split at h
        · cases h
          have : 0 < 2 ^ ((b.getD i 0).toNat - 76) := Nat.pow_pos (by decide)
          omega
        · cases h
    · split at h
      · cases h; omega
      · cases h
theorem la_run (b : List UInt8) (hb : b.length ≤ 100000) : ∀ (m i : Nat) (found : List PV) (o : Option PV), b.length - i < m → i ≤ b.length → found.length + (b.length - i) ≤ 1000000 →
    loopK T1 "_law_all" m (laA b found (i : Int) (match o with | none => [] | some p => [(nm "one", .val p)])) laKf =
      some (.tup [.lst (found ++ (walk b m i).1.map itemP), .int ((walk b m i).2.1 : Nat), .bool (walk b m i).2.2])
  | 0, i, found, o, h, _, _ => by omega
  | m + 1, i, found, o, h, hi, hf => by
    rw [la_step, lenB_ok (by omega)]
    unfold walk
    by_cases h1 : i < b.length
    · rw [condT (by omega), if_pos h1, gateT (by rw [decide_eq_true (by omega), decide_eq_true (by omega), decide_eq_true hb]; rfl), Int.toNat_natCast]
      cases hop : opAt b i with
      | none => simp
      | some x =>
        obtain ⟨w, c, e⟩ := x
        obtain ⟨b1, b2⟩ := opAt_bound h1 hop
        cases c with
        | none =>
          dsimp only
          rw [gateT (lenT (by omega))]
          have := la_run b hb m e (found ++ [.tup [.int (w : Nat), .none, .int (i : Nat), .int (e : Nat)]]) (some (.tup [.int (w : Nat), .none, .int (e : Nat)])) (by omega) b2 (by simp; omega)
          dsimp only at this
          rw [this]
          simp [itemP]
        | some c =>
          dsimp only
          rw [gateT (lenT (by omega))]
          have := la_run b hb m e (found ++ [.tup [.int (w : Nat), .bytes c, .int (i : Nat), .int (e : Nat)]]) (some (.tup [.int (w : Nat), .bytes c, .int (e : Nat)])) (by omega) b2 (by simp; omega)
          dsimp only at this
          rw [this]
          simp [itemP]
    · rw [condF (by omega), if_neg h1]; simp
/-- the law's reading of all words -/
def allP (b : List UInt8) : List Item × Nat × Bool := walk b 4000 0
def allV (x : List Item × Nat × Bool) : PV := .tup [.lst (x.1.map itemP), .int (x.2.1 : Nat), .bool x.2.2]
theorem all_run (b : List UInt8) (hb : b.length < 4000) : runF T1 "_law_all" [.bytes b] = some (allV (allP b)) := by
  rw [la_start]
  have := la_run b (by omega) 4000 0 [] none (by omega) (by omega) (by simp; omega)
  exact this
end Mine
end

/-! Str2 -/
section
open PySem PySem.W PyProof.Rows
set_option maxRecDepth 100000
namespace Mine
variable {prog : Program} {w : World} {h₁ : Heap} {n : Nat} {A : Around} {s s' : Shared} {H H' : PHeap} {r : PV} {E : Value → Shared → Prop} {k : K} {Q : Value → Shared → Prop} {T : Tbl}

theorem tb_ok {l : List (Str × Fun)} (B : TblOk prog w h₁ n base) (h : ∀ p ∈ l, nameOk p.1 ∧ ∃ v, GlobIs h₁ p.1 v ∧ FunOk prog w h₁ n v p.2) : TblOk prog w h₁ n (tb l) := by
  refine ⟨B.gl, fun f φ e => ?_, B.mt⟩
  unfold tb at e
  dsimp only at e
  cases q : lookS l f with
  | some ψ =>
    rw [q] at e
    cases e
    exact h _ (lookS_mem q)
  | none => rw [q] at e; exact B.fn f φ e
def tyF : Fun := fun as ks k => match as, ks with
  | [.int _], [] => k (.raw (.type "int"))
  | [.bytes _], [] => k (.raw (.type "bytes"))
  | _, _ => none
theorem ty_ok : FunOk prog w h₁ n (.type "type") tyF := by
  refine fun_plain rfl fun A E Q s H args kws ps ks k r R hs ha hk e N => ?_
  unfold tyF at e
  split at e
  · cases hk
    cases ha with
    | cons hv ht =>
      cases ht
      cases hv with
      | int i t => exact call_type_of (Tx := "int") rfl (by decide) (N _ _ s H (.refl hs) (.raw _) e)
  · cases hk
    cases ha with
    | cons hv ht =>
      cases ht
      cases hv with
      | bytes b t => exact call_type_of (Tx := "bytes") rfl (by decide) (N _ _ s H (.refl hs) (.raw _) e)
  · cases e
def inF : Fun := fun as ks k => match as, ks with
  | [.int i], [] => k (.int i)
  | _, _ => none
theorem in_ok : FunOk prog w h₁ n (.type "int") inF := by
  refine fun_plain rfl fun A E Q s H args kws ps ks k r R hs ha hk e N => ?_
  unfold inF at e
  split at e
  · cases hk
    cases ha with
    | cons hv ht =>
      cases ht
      cases hv with
      | int i t => exact call_int_int (N _ _ s H (.refl hs) (.int _ t) e)
  · cases e
def TI : Tbl := tb [(nm "type", tyF), (nm "int", inF)]
def ixT (i : Int) : Option PV := bif decide (1099511627776 < i) then none else bif decide (i < -1099511627776) then none else some (.int i)
theorem ix_tree (i : Int) (x : Str) : runF TI "_index" [.int i, .str x] = ixT i := by kernel_rfl
def ixF : Fun := fun as ks k => match as, ks with
  | [.int i, .str _], [] => gate (decide (0 ≤ i) && decide (i ≤ 1000000000000)) (k (.int i))
  | _, _ => none
theorem ix_run (i : Int) (x : Str) (h0 : 0 ≤ i) (h1 : i ≤ 1000000000000) : runF TI "_index" [.int i, .str x] = some (.int i) := by
  rw [ix_tree]
  unfold ixT
  rw [decide_eq_false (by omega), decide_eq_false (by omega)]
  rfl
end Mine
end

/-! Str3 -/
section
open PySem PySem.W PyProof.Rows
set_option maxRecDepth 100000
namespace Mine
def clsIn : Str → List Stmt → List Stmt
  | _, [] => []
  | n, .ClassDef m _ _ b _ _ _ _ _ _ _ :: r => bif decide (m = n) then b else clsIn n r
  | n, _ :: r => clsIn n r
def mOf? (c m : String) : Option (Arguments × Scope × List Stmt) := fnIn (Str.ofString m) (clsIn (Str.ofString c) pw.main.body)
def mBody (c m : String) : List Stmt := match mOf? c m with | some x => x.2.2 | none => []
def mSc (c m : String) : Scope := match mOf? c m with | some x => x.2.1 | none => default
def mPar (c m : String) : Arguments := match mOf? c m with | some x => x.1 | none => default
theorem check_body : ∃ p1 p2 p3 p4 p5 B, mBody "BytesIO" "__check" = [.If (.Compare (.Attribute (.Name (nm "self") p1) (nm "_BytesIO__buf") p2) [.Is] [.Constant .none 0 p3] p4) B [] p5] := ⟨_, _, _, _, _, _, by with_unfolding_all rfl⟩
end Mine
namespace Mine
variable {prog : Program} {w : World} {h₁ : Heap} {n : Nat} {A : Around} {s s' : Shared} {H H' : PHeap} {r : PV} {E : Value → Shared → Prop} {K : Frag} {C x dx ba : Addr} {b : List UInt8} {p : Nat} {fread fcheck : Addr} {fd : FuncData}
theorem StreamAt.keeps {h h' : Heap} (S : StreamAt C h x dx ba b p) (k : Keep h h') : StreamAt C h' x dx ba b p :=
  ⟨k _ _ S.inst, let ⟨a, b, c, d, e, f⟩ := S.dict; ⟨a, b, c, d, e, k _ _ f⟩, k _ _ S.buf⟩
theorem const_none {A : Around} {M : Model} {env : PySem.Env} {i : Nat} {pos : Pos} {Q : Value → Shared → Prop} (q : Q .none s) : wpAny M A (eval (.Constant .none i pos) env) Q E s := fun _ _ _ => q
theorem check_call {Q : Value → Shared → Prop} (X : K.In h₁) (lim : h₁.NoLimit) (F : FnAt K fcheck (mPar "BytesIO" "__check") (mBody "BytesIO" "__check") (mSc "BytesIO" "__check") fd) (hd : fd.defaults = .none) (hk : fd.kwdefaults = .none)
    (Y : ClsK K C fread fcheck) (S : StreamAt C s.heap x dx ba b p) (R : Room (n + 1) A) (g : Base h₁ H s) (q : ∀ s', After s H s' H → Q .none s') : wpAny (model prog w) A (call (.ref fcheck) [.ref x]) Q E s := by
  obtain ⟨o, ho, hod⟩ := F.get X
  have bind : BindsTo s fd ⟨[.ref x], []⟩ [(nm "self", .ref x)] := by
    refine .of_eq ?_
    have h1 := F.params
    obtain ⟨⟩ := fd
    dsimp only at h1 hd hk
    subst h1 hd hk
    kernel_rfl
  have hs := F.scope
  refine wpAny_call (code_open (n := n) (pb := [(nm "self", .raw (.ref x))]) (g.keep _ _ ho) hod (lim.keeps g.keep) ((codeRec_of X F.code).keeps g.keep) F.body F.clo F.glob F.blt (by rw [hs]; kernel_rfl) bind (.cons (.raw _) .nil) R g fun env Mu s₁ ok R' fb => ?_)
  obtain ⟨p1, p2, p3, p4, p5, B, e⟩ := check_body
  rw [e]
  have X1 : K.In s₁.heap := X.keeps fb.base.keep
  have S1 := S.keeps fb.finish.keep
  obtain ⟨v, hv, hr⟩ := fb.vars.val (nm "self") (.raw (.ref x)) rfl
  cases hr
  refine wpAny_execs_cons (wpAny_If (wpAny_isTrue_Compare1 (Attribute_name (name_read ok.kind hv (get_buf X1 Y S1 (const_none ?_)))) rfl))
  refine wpAny_is_other rfl (by simp) (wpAny_truthy_bool ?_)
  refine wpAny_execs_nil (wpAny_execs_nil ?_)
  exact q _ (fb.finish.trans (.tok fb.finish.sub))
end Mine
end

/-! Cl1 -/
section
open PySem PySem.W PyProof.Rows
set_option maxRecDepth 100000
namespace Mine

/-- codes that a bytearray does not ask the stack for -/
def CleanC : Code → Prop
  | .builtin id _ => guardIds.contains id = false ∧ Builtin.Bytes.decodersThatHold.contains id = false
  | _ => True
def CleanL (l : List (Code × Pos)) : Prop := ∀ x ∈ l, CleanC x.1

section
variable {α β : Type}
def wpC (M : Model) (A : Around) (t : Sem α) (Q : α → Shared → Prop) (E : Value → Shared → Prop) (s : Shared) : Prop :=
  ∀ Γ p, Γ.In A → CleanC Γ.code → CleanL Γ.below → Sem.wp M Γ t (fun a _ s' => Q a s') (fun e _ s' => E e s') p s
def codeC (M : Model) (A : Around) (c : Code) (R : Result → Shared → Prop) (s : Shared) : Prop :=
  ∀ Γ p, Γ.code = c → Γ.Below A → CleanL Γ.below → wpCode M Γ R p s
variable {M : Model} {A : Around} {E : Value → Shared → Prop} {s : Shared}
theorem wpC_of {t : Sem α} {Q : α → Shared → Prop} (h : wpAny M A t Q E s) : wpC M A t Q E s := fun Γ p a _ _ => h Γ p a
theorem codeC_of {c : Code} {R : Result → Shared → Prop} (h : codeAny M A c R s) : codeC M A c R s := fun Γ p a b _ => h Γ p a b
theorem wpC_mono {t : Sem α} {Q Q' : α → Shared → Prop} {E' : Value → Shared → Prop} (h : wpC M A t Q E s) (hQ : ∀ a s, Q a s → Q' a s) (hE : ∀ e s, E e s → E' e s) : wpC M A t Q' E' s :=
  fun Γ p a b c => Sem.wp_mono M Γ t (fun a _ s => hQ a s) (fun e _ s => hE e s) p s (h Γ p a b c)
theorem wpC_bind {m : Sem α} {f : α → Sem β} {Q : β → Shared → Prop} (h : wpC M A m (fun a s' => wpC M A (f a) Q E s') E s) : wpC M A (m >>= f) Q E s := fun Γ p a b c => by
  rw [Sem.wp_bind']
  exact Sem.wp_mono M Γ m (fun _ p' _ h' => h' Γ p' a b c) (fun _ _ _ h' => h') p s (h Γ p a b c)
/-- the first part is of the common sort -/
theorem wpC_bindA {m : Sem α} {f : α → Sem β} {Q : β → Shared → Prop} (h : wpAny M A m (fun a s' => wpC M A (f a) Q E s') E s) : wpC M A (m >>= f) Q E s := wpC_bind (wpC_of h)
/-- the rest is of the common sort -/
theorem wpC_bindB {m : Sem α} {f : α → Sem β} {Q : β → Shared → Prop} (h : wpC M A m (fun a s' => wpAny M A (f a) Q E s') E s) : wpC M A (m >>= f) Q E s :=
  wpC_bind (wpC_mono h (fun _ _ h => wpC_of h) fun _ _ h => h)
theorem wpC_pure {a : α} {Q : α → Shared → Prop} (h : Q a s) : wpC M A (pure a) Q E s := wpC_of (wpAny_pure h)
theorem wpC_holding {vs : List Value} {m : Sem α} {Q : α → Shared → Prop} (h : wpC M A m Q E s) : wpC M A (holding vs m) Q E s :=
  fun Γ p a b c => by rw [Sem.wp_holding]; exact h Γ p a b c
theorem wpC_keep {vs : List Value} {m : Sem α} {Q : α → Shared → Prop} (h : wpC M A m Q E s) : wpC M A (m.keep vs) Q E s :=
  fun Γ p a b c => by rw [Sem.wp_keep]; exact h Γ p a b c
theorem wpC_onRaise {m : Sem α} {k : Value → Sem Unit} {Q : α → Shared → Prop} (h : wpC M A m Q (fun e s' => wpAny M A (k e) (fun _ s'' => E e s'') E s') s) : wpC M A (m.onRaise k) Q E s := fun Γ p a b c => by
  rw [Sem.wp_onRaise]
  exact Sem.wp_mono M Γ m (fun _ _ _ h' => h') (fun _ p' _ h' => h' Γ p' a) p s (h Γ p a b c)
theorem clean_cons {c : Code} {p : Pos} {l : List (Code × Pos)} (a : CleanC c) (b : CleanL l) : CleanL ((c, p) :: l) := fun x hx => by
  rcases List.mem_cons.mp hx with rfl | hx
  · exact a
  · exact b x hx
theorem wpC_runValue {c : Code} {Q : Value → Shared → Prop} (hc : codeC M A c (fun r s' => match r with | .ok (.ret v) => Q v s' | .ok _ => False | .error e => E e s') s) : wpC M A (runValue c) Q E s :=
  fun Γ p a b l => by rw [Sem.wp_runValue]; exact hc _ p rfl (a.enter c none p (by intro x; cases x)) (clean_cons b l)
theorem wpC_call {f : Value} {pos : List Value} {kw : List (Str × Value)} {Q : Value → Shared → Prop} (hc : codeC M A (.call f ⟨pos, kw⟩) (fun r s' => match r with | .ok (.ret v) => Q v s' | .ok _ => False | .error e => E e s') s) :
    wpC M A (call f pos kw) Q E s := wpC_runValue hc
theorem codeC_mono {c : Code} {R R' : Result → Shared → Prop} (h : codeC M A c R s) (hR : ∀ r s, R r s → R' r s) : codeC M A c R' s := fun Γ p hc hΓ l => wpCode_mono hR (h Γ p hc hΓ l)
theorem codeC_of_tree {c : Code} {R : Result → Shared → Prop} (cl : CleanC c)
    (h : wpC M (A.under c) (M.den c) (fun fin s' => match fin with | .done f => R (.ok f) s' | .again c' => c'.quiet = true ∧ codeC M A c' R s') (fun e s' => R (.error e) s') s) : codeC M A c R s := fun Γ p hc hΓ l => by
  rw [wpCode_iff_wp, hc]
  refine Sem.wp_mono M Γ _ (fun fin p' s' h' => ?_) (fun _ _ _ h' => h') p s (h Γ p (hc ▸ hΓ.in) (hc ▸ cl) l)
  cases fin with
  | done f => exact h'
  | again c' => exact ⟨h'.1, h'.2 (Γ.goto c') p' rfl (hΓ.goto c') l⟩
end
section
variable {prog : Program} {w : World} {A : Around} {E : Value → Shared → Prop} {s : Shared} {R : Result → Shared → Prop} {env : PySem.Env}
theorem codeC_builtin {id : String} {args : Args} {b : Builtin} (cl : CleanC (.builtin id args)) (hb : entryFor table id = some b)
    (h : wpC (model prog w) (A.under (.builtin id args)) (b args)
      (fun fin s' => match fin with | .done f => R (.ok f) s' | .again c' => c'.quiet = true ∧ codeC (model prog w) A c' R s') (fun e s' => R (.error e) s') s) :
    codeC (model prog w) A (.builtin id args) R s := by
  refine codeC_of_tree cl ?_
  show wpC _ _ (match entryFor table id with | some b => b args | none => unsupported ((withoutEnding? id "#data").getD id)) _ _ s
  rw [hb]; exact h
theorem codeC_func {body : List Stmt} (h : wpC (model prog w) (A.deeper env) (execs body env) (fun f s' => R (.ok (.ret (match f with | .ret v => v | _ => .none))) s')
      (fun e s' => wpAny (model prog w) (A.deeper env) (leaving env e) (fun _ s'' => R (.error e) s'') (fun e' s'' => R (.error e') s'') s') s) :
    codeC (model prog w) A (.func body env) R s := by
  refine codeC_of_tree trivial ?_
  show wpC _ (A.deeper env) (do point; match ← (execs body env).onRaise (leaving env) with | .ret v => ret v | _ => ret .none) _ _ s
  refine wpC_bindA (wpAny_point (wpC_bindB ?_))
  have h2 := wpC_mono (Q' := fun f s' => R (.ok (.ret (match f with | .ret v => v | _ => .none))) s') (E' := fun e s' => wpAny (model prog w) (A.deeper env) (leaving env e) (fun _ s'' => R (.error e) s'') (fun e' s'' => R (.error e') s'') s') h (fun f s' h' => h') (fun _ _ h' => h')
  intro Γ p a b c
  rw [Sem.wp_onRaise]
  refine Sem.wp_mono (model prog w) Γ _ (fun f _ s' h' => ?_) (fun _ p' _ h' => ?_) p s (h2 Γ p a b c)
  · cases f <;> exact wpAny_pure h'
  · exact h' Γ p' a
theorem codeC_call_function {a : Addr} {args : Args} {o : Obj} {fd : FuncData} {body : List Stmt} (hroom : A.depth < recursionLimit)
    (ho : s.heap.get? a = some o)
    (hd' : o.data = .func fd) (hco : fd.scope.isCoroutine = false) (hgen : fd.scope.isGenerator = false) (hbody : fd.body = .stmts body) (hcd : s.heap.CodeRec fd.code fd.qualname)
    (h : wpAny (model prog w) A.in1 (bindArgs fd args) (fun binds s₁ =>
      wpAny (model prog w) A.in1 (newFunctionEnv fd.scope fd.globals fd.closure binds (fd.qualname ++ ".<locals>.") (some a) fd.code none fd.builtins)
        (fun env s₂ => s₂.heap.NoLimit ∧ codeC (model prog w) A (.func body env) R s₂) (fun e s' => R (.error e) s') s₁) (fun e s' => R (.error e) s') s) :
    codeC (model prog w) A (.call (.ref a) args) R s := by
  refine codeC_of_tree trivial ?_
  show wpC _ A.in1 (callAny (.ref a) args) _ _ s
  simp only [callAny]
  refine wpC_of (wpAny_bind (wpAny_load ho ?_))
  obtain ⟨c, oc, vs, tq, hc, hoc, hdc, hq⟩ := hcd
  simp only [hd', callFunction, hco, hgen, hbody, hc]
  rw [hc] at h
  refine wpAny_bind (m := field (.ref c) 1) (wpAny_field hoc hdc hq (wpAny_bind (wpAny_pure ?_)))
  exact wpAny_bind (wpAny_mono h (fun binds s₁ h₁ => wpAny_bind (wpAny_mono h₁ (fun env s₂ h₂ => wpAny_bind (wpAny_enterFrame h₂.1 hroom
    (wpAny_pure (And.intro rfl h₂.2)))) fun _ _ h' => h')) fun _ _ h' => h')
theorem codeC_openF {h₁ : Heap} {H : PHeap} {n : Nat} {fa : Addr} {o : Obj} {fd : FuncData} {body : List Stmt} {args : Args} {binds : List (Str × Value)} {pb : List (Str × PV)}
    (ho : s.heap.get? fa = some o) (hd : o.data = .func fd) (hlim : s.heap.NoLimit) (hcd : s.heap.CodeRec fd.code fd.qualname) (hbody : fd.body = .stmts body) (hclo : fd.closure = []) (hglob : fd.globals = mainGlobals) (hblt : fd.builtins = builtinsNs)
    (hsc : scOk fd.scope (pb.map (·.1)) = true) (hb : BindsTo s fd args binds) (hr : RepK prog w H binds pb) (Rm : Room (n + 1) A) (g : Base h₁ H s)
    (N : ∀ env Mu s₁, EnvOk fd.scope env → env.frame = some env.locals → Room n (A.deeper env) → FB prog w h₁ Mu fd.scope env (valsOf pb) s H s₁ H → wpC (model prog w) (A.deeper env) (execs body env) (fun f s' => R (.ok (.ret (match f with | .ret v => v | _ => .none))) s')
      (fun e s' => wpAny (model prog w) (A.deeper env) (leaving env e) (fun _ s'' => R (.error e) s'') (fun e' s'' => R (.error e') s'') s') s₁) : codeC (model prog w) A (.call (.ref fa) args) R s := by
  have hsc' := hsc
  unfold scOk at hsc'
  obtain ⟨hsc', h5⟩ := and_split hsc'
  obtain ⟨hsc', h4⟩ := and_split hsc'
  refine codeC_call_function Rm.lim ho hd (by simpa using h4) (by simpa using h5) hbody hcd (hb _ _ _ _ ?_)
  rw [hclo]
  exact frame_openF hlim hglob hblt hsc hr g fun env Mu s₁ ok hf fb => codeC_func (N env Mu s₁ ok hf (Rm.deeper env) fb)
theorem codeC_open {h₁ : Heap} {H : PHeap} {n : Nat} {fa : Addr} {o : Obj} {fd : FuncData} {body : List Stmt} {args : Args} {binds : List (Str × Value)} {pb : List (Str × PV)}
    (ho : s.heap.get? fa = some o) (hd : o.data = .func fd) (hlim : s.heap.NoLimit) (hcd : s.heap.CodeRec fd.code fd.qualname) (hbody : fd.body = .stmts body) (hclo : fd.closure = []) (hglob : fd.globals = mainGlobals) (hblt : fd.builtins = builtinsNs)
    (hsc : scOk fd.scope (pb.map (·.1)) = true) (hb : BindsTo s fd args binds) (hr : RepK prog w H binds pb) (Rm : Room (n + 1) A) (g : Base h₁ H s)
    (N : ∀ env Mu s₁, EnvOk fd.scope env → Room n (A.deeper env) → FB prog w h₁ Mu fd.scope env (valsOf pb) s H s₁ H → wpC (model prog w) (A.deeper env) (execs body env) (fun f s' => R (.ok (.ret (match f with | .ret v => v | _ => .none))) s')
      (fun e s' => wpAny (model prog w) (A.deeper env) (leaving env e) (fun _ s'' => R (.error e) s'') (fun e' s'' => R (.error e') s'') s') s₁) : codeC (model prog w) A (.call (.ref fa) args) R s :=
  codeC_openF ho hd hlim hcd hbody hclo hglob hblt hsc hb hr Rm g fun env Mu s₁ ok _ R fb => N env Mu s₁ ok R fb
theorem execs_consC {st rest} {Q : Flow → Shared → Prop} {M : Model} (h : wpC M A (exec st env) (fun f s' => match f with | .next => wpC M A (execs rest env) Q E s' | f => Q f s') E s) :
    wpC M A (execs (st :: rest) env) Q E s := fun Γ p a b c => by
  rw [execs_cons, Sem.wp_bind']
  refine Sem.wp_mono M Γ _ (fun f p' s' h' => ?_) (fun _ _ _ h' => h') _ _ (h Γ p a b c)
  cases f <;> first | exact h' Γ p' a b c | exact h'
theorem Assign_NameC {x pos' value pos} {Q : Flow → Shared → Prop} {M : Model}
    (h : wpC M A (eval value env) (fun v s₁ => wpAny M A (storeName env x v) (fun _ => Q .next) E s₁) E s)
    (hs : swapsWith value (some (.Name x pos')) pos.line env = pure false) :
    wpC M A (exec (.Assign [.Name x pos'] value pos) env) Q E s := fun Γ p a b c => by
  simp only [exec_Assign_Name env x pos' value pos hs, Sem.wp_bind', Sem.wp_cmd_standAt, Sem.wp_bindName, Sem.wp_pure']
  exact Sem.wp_mono M Γ _ (fun v _ s₁ h₁ => h₁ Γ _ a) (fun _ _ _ h' => h') _ _ (h Γ _ a b c)
theorem Return_someC {e pos} {Q : Flow → Shared → Prop} {M : Model} (h : wpC M A (eval e env) (fun v => Q (.ret v)) E s) :
    wpC M A (exec (.Return (some e) pos) env) Q E s := fun Γ p a b c => by
  simp only [exec_Return_some, Sem.wp_bind', Sem.wp_cmd_standAt, Sem.wp_pure']; exact h Γ _ a b c
theorem Assign_AttributeC {o attr pos' value pos} {Q : Flow → Shared → Prop} {M : Model}
    (h : wpC M A (eval value env) (fun v s₁ => wpAny M A (eval o env) (fun ov s₂ => wpAny M A (setAttr ov attr v) (fun _ => Q .next) E s₂) E s₁) E s)
    (hs : swapsWith value (some (.Attribute o attr pos')) pos.line env = pure false) :
    wpC M A (exec (.Assign [.Attribute o attr pos'] value pos) env) Q E s := fun Γ p a b c => by
  simp only [plainObj_exec_Assign_Attribute o attr pos' value pos hs, assign_Attribute, Sem.wp_bind', Sem.wp_holding, Sem.wp_cmd_standAt, Sem.wp_release, Sem.wp_pure']
  exact Sem.wp_mono M Γ _ (fun v p₁ s₁ h₁ => Sem.wp_mono M Γ _ (fun ov _ s₂ h₂ => h₂ Γ _ a) (fun _ _ _ h' => h') _ _ (h₁ Γ p₁ a)) (fun _ _ _ h' => h') _ _ (h Γ _ a b c)
theorem callWith_ofC {M : Model} {pos : Pos} {f : Value} {first : List Value} {Q : Value → Shared → Prop} {P : Heap → Prop} {args : List (Bool × Sem Value)} {keywords : List (Option Str × Sem Value)} (hplain : (args.any (·.1) || keywords.any (·.1.isNone)) = false)
    (hk : ∀ h, P h → ∃ k, (k = Keeper.frame ∨ k = Keeper.machine ∨ k = Keeper.boundFrame) ∧ Looks M h (keeperOf f) k)
    (h : wpAny M A (evalArgs f true args keywords) (fun a s₁ => P s₁.heap ∧ wpC M A (call f (first ++ a.pos) a.kw) Q E s₁) E s) : wpC M A (callWith pos f first args keywords) Q E s := by
  unfold callWith
  refine wpC_bindA (wpAny_holding (wpAny_mono h (fun a s₁ h₁ => wpC_bindA (wpAny_standAt ?_)) fun _ _ x => x))
  obtain ⟨k, hk', L⟩ := hk _ h₁.1
  simp only [hplain]
  refine wpC_bindA (L.here ?_)
  have tail : ∀ {t : Sem Value}, wpC M A t Q E s₁ → wpC M A (t >>= fun r => holding [r] point >>= fun _ => pure r) Q E s₁ :=
    fun ht => wpC_bindB (wpC_mono ht (fun r s₂ hr => wpAny_bind (wpAny_holding (wpAny_point (wpAny_pure hr)))) fun _ _ x => x)
  have marked (mk : Value) : wpC M A (callMarked mk f (first ++ a.pos) a.kw) Q E s₁ := by unfold callMarked; exact wpC_keep h₁.2
  rcases hk' with rfl | rfl | rfl <;> dsimp only <;> first | exact tail h₁.2 | (split <;> first | exact tail h₁.2 | exact tail (marked _))
theorem Call_NameC {M : Model} {id : Str} {p pos : Pos} {args : List Expr} {keywords : List Keyword} {Q : Value → Shared → Prop}
    (h : wpAny M A (eval (.Name id p) env) (fun f s₁ => wpC M A (callWith pos f [] (backTo pos (starEach args env)) (backToKw pos (keywordEach keywords env))) Q E s₁) E s) :
    wpC M A (eval (.Call (.Name id p) args keywords pos) env) Q E s := by
  rw [arm_eval_Call_Name']
  exact wpC_bindA h
/-- the question of bytearray to the stack -/
theorem exported_not {M : Model} {self : Value} {Q : Bool → Shared → Prop} (h : Q false s) : wpC M A (Builtin.Bytes.exported self) Q E s := by
  intro Γ p a b c
  unfold Builtin.Bytes.exported
  have all : CleanL ((Γ.code, p) :: Γ.below) := clean_cons b c
  have main : ∀ b : Bool, b = false → Q b s := fun b e => e ▸ h
  show Q (List.any ((Γ.code, p) :: Γ.below) _) s
  refine main _ ?_
  rw [List.any_eq_false]
  intro x hx
  have cl := all x hx
  obtain ⟨cd, p⟩ := x
  dsimp only at cl
  split
  · rename_i e
    cases e
    exact absurd (show guardIds.contains _ = false ∧ _ from cl).1 (by decide)
  · rename_i e
    cases e
    exact absurd (show guardIds.contains _ = false ∧ _ from cl).1 (by decide)
  · rename_i e
    cases e
    exact absurd (show guardIds.contains _ = false ∧ _ from cl).1 (by decide)
  · rename_i e
    cases e
    exact absurd (show guardIds.contains _ = false ∧ _ from cl).1 (by decide)
  · rename_i e
    cases e
    exact absurd (show guardIds.contains _ = false ∧ _ from cl).1 (by decide)
  · rename_i e
    cases e
    rw [(show _ ∧ Builtin.Bytes.decodersThatHold.contains _ = false from cl).2, Bool.and_false]
    decide
  · decide
end
end Mine
end

/-! Ba1 -/
section
open PySem PySem.W PyProof.Rows
set_option maxRecDepth 100000
namespace Mine
variable {prog : Program} {w : World} {A : Around} {E : Value → Shared → Prop} {s : Shared} {ba : Addr} {b : List UInt8}

abbrev baObj (b : List UInt8) : Obj := { cls := .type "bytearray", data := .bytearray b.toArray }
theorem ba_type (h : s.heap.get? ba = some (baObj b)) : s.TypeIs (.ref ba) "bytearray" := ⟨_, h, rfl⟩
theorem slot_ba_len : Slot "bytearray" "__len__" "bytearray.__len__" :=
  .of (owner := "bytearray") (n := "__len__") (by rw [typeLookup_type, builtinLookup_eq_fast]; kernel_rfl) (by decide +kernel) (by decide +kernel) (by decide +kernel)
    (by first | exact .inl (by decide +kernel) | exact .inr (by decide +kernel)) (by rw [isSubtype_type]; kernel_rfl)
theorem entry_ba_len : entryFor table "bytearray.__len__" = some Builtin.«bytearray.__len__» := entryFor_of_tree (by kernel_rfl)
theorem args_ba_len (a : Value) : argsOk "bytearray.__len__" ⟨[a], []⟩ := by unfold argsOk; kernel_rfl
theorem ba_len {Q : Value → Shared → Prop} (h : s.heap.get? ba = some (baObj b)) (hl : b.length ≤ 1000000) (q : Q (.int b.length (s.toks + 1)) { s with toks := s.toks + 1 + 1 }) :
    wpAny (model prog w) A (call (.builtin "len") [.ref ba]) Q E s := by
  refine Calls.call_function_entry kind_len plain_len entry_len (args_len1 _) ?_
  unfold Builtin.«len»
  refine wpAny_bind (m := oneArg "len" _) (wpAny_pure ?_)
  refine wpAny_bind (m := callSpecial? (.ref ba) (Str.ofString "__len__")) (wpAny_callSpecial?_slot (name := Str.ofString "__len__") (ba_type h) slot_ba_len
    (wpAny_call_entry slot_ba_len (ba_type h) entry_ba_len ?_ (args_ba_len _)))
  · show wpAny _ _ (do retInt (← Builtin.Bytes.payload (.ref ba)).size) _ _ s
    unfold Builtin.Bytes.payload Builtin.Bytes.payload?
    refine wpAny_bind (wpAny_bind (wpAny_bind (wpAny_load h (wpAny_pure (wpAny_pure ?_)))))
    refine wpAny_bind (wpAny_mkInt (wpAny_pure ⟨_, rfl, ?_⟩))
    show wpAny _ _ _ _ _ { s with toks := s.toks + 1 }
    refine wpAny_bind (wpAny_holding (wpAny_pure ?_))
    refine wpAny_bind (wpAny_letGo ?_)
    show wpAny _ _ (if ((b.toArray.size : Nat) : Int) < 0 then _ else _) _ _ _
    rw [if_neg (by omega)]
    show wpAny _ _ (if ((b.toArray.size : Nat) : Int) ≥ 2 ^ 63 then _ else _) _ _ _
    rw [if_neg (by simp; omega)]
    refine wpAny_bind (wpAny_mkInt (wpAny_pure ⟨_, rfl, ?_⟩))
    simpa using q

theorem no_bytes_ba : typeLookup (.type "bytearray") "__bytes__" = pure none := by rw [typeLookup_type, builtinLookup_eq_fast]; kernel_rfl
theorem no_index_ba : typeLookup (.type "bytearray") "__index__" = pure none := by rw [typeLookup_type, builtinLookup_eq_fast]; kernel_rfl
theorem buf_ba : typeLookup (.type "bytearray") "__buffer__" = pure (some (.builtin "bytearray.__buffer__")) := by rw [typeLookup_type, builtinLookup_eq_fast]; kernel_rfl
theorem rel_ba : typeLookup (.type "bytearray") "__release_buffer__" = pure (some (.builtin "bytearray.__release_buffer__")) := by rw [typeLookup_type, builtinLookup_eq_fast]; kernel_rfl
theorem sub_ba : isSubtype (.type "bytearray") (.type "bytearray") = pure true := by rw [isSubtype_type]; kernel_rfl
theorem ends_ba1 : ("bytearray.__buffer__".endsWith ("." ++ "__buffer__")) = true := by decide +kernel
theorem drop_ba1 : ("bytearray.__buffer__".dropRight ("__buffer__".length + 1)) = "bytearray" := by decide +kernel
theorem ends_ba2 : ("bytearray.__release_buffer__".endsWith ("." ++ "__release_buffer__")) = true := by decide +kernel
theorem drop_ba2 : ("bytearray.__release_buffer__".dropRight ("__release_buffer__".length + 1)) = "bytearray" := by decide +kernel
theorem buffer_ba {id : String} {f : Bool} {Q : Option (Array UInt8) → Shared → Prop} (h : s.heap.get? ba = some (baObj b)) (q : Q (some b.toArray) s) : wpAny (model prog w) A (Builtin.Bytes.buffer? id (.ref ba) f) Q E s := by
  have hT := ba_type h
  unfold Builtin.Bytes.buffer?
  refine wpAny_bind (wpAny_specialOf hT buf_ba ?_)
  dsimp only
  refine wpAny_bind ?_
  unfold Builtin.Bytes.slotIsOwn
  refine wpAny_bind (wpAny_specialOf hT buf_ba ?_)
  dsimp only
  rw [ends_ba1, drop_ba1]
  refine PySem.bm_if_false rfl (wpAny_isInstance hT sub_ba ?_)
  refine PySem.bm_if_false rfl ?_
  refine wpAny_bind (wpAny_specialOf hT buf_ba ?_)
  refine wpAny_bind ?_
  unfold Builtin.Bytes.ownRelease
  refine wpAny_bind ?_
  unfold Builtin.Bytes.slotIsOwn
  refine wpAny_bind (wpAny_specialOf hT rel_ba ?_)
  dsimp only
  rw [ends_ba2, drop_ba2]
  refine PySem.bm_if_false rfl (wpAny_isInstance hT sub_ba (wpAny_pure ?_))
  refine PySem.bm_if_false rfl ?_
  unfold Builtin.Bytes.payload Builtin.Bytes.payload?
  exact wpAny_bind (wpAny_bind (wpAny_bind (wpAny_load h (wpAny_pure (wpAny_pure (wpAny_pure q))))))
end Mine
end

/-! Ba2 -/
section
open PySem PySem.W PyProof.Rows
set_option maxRecDepth 100000
namespace Mine
variable {prog : Program} {w : World} {A : Around} {E : Value → Shared → Prop} {s : Shared} {ba : Addr} {b : List UInt8}

theorem slot_ba_getitem : Slot "bytearray" "__getitem__" "bytearray.__getitem__" :=
  .of (owner := "bytearray") (n := "__getitem__") (by rw [typeLookup_type, builtinLookup_eq_fast]; kernel_rfl) (by decide +kernel) (by decide +kernel) (by decide +kernel)
    (by first | exact .inl (by decide +kernel) | exact .inr (by decide +kernel)) (by rw [isSubtype_type]; kernel_rfl)
theorem entry_ba_getitem : entryFor table "bytearray.__getitem__" = some Builtin.«bytearray.__getitem__» := entryFor_of_tree (by kernel_rfl)
theorem args_ba_getitem (a c : Value) : argsOk "bytearray.__getitem__" ⟨[a, c], []⟩ := by unfold argsOk; kernel_rfl
theorem ba_slice {a : Addr} {i j : Nat} {ti tj : Tok} {Q : Value → Shared → Prop} (h : s.heap.get? ba = some (baObj b)) (hs : s.heap.IsSliceOf a (.int i ti) (.int j tj) .none) (hl : b.length ≤ 1000000)
    (q : Q (.ref s.heap.objs.size) { s with heap := s.heap.push (baObj (cutL b (some (i : Int)) (some (j : Int)))) }) : wpAny (model prog w) A (getItem (.ref ba) (.ref a)) Q E s := by
  refine getItem_meets (S := fun _ R s₁ => s₁ = s ∧ R (.ok (.ret (.ref s.heap.objs.size))) { s with heap := s.heap.push (baObj (cutL b (some (i : Int)) (some (j : Int)))) }) (ba_type h) (by decide) slot_ba_getitem entry_ba_getitem (args_ba_getitem _ _) ?_ ⟨rfl, q⟩
  refine .of_wp fun prog w A R s' hS => ?_
  obtain ⟨rfl, h'⟩ := hS
  obtain ⟨o, ho, hc, hd⟩ := hs
  have hT : s'.TypeIs (.ref a) "slice" := ⟨o, ho, hc⟩
  show wpAny _ _ (Builtin.Bytes.subscript? (.ref a) >>= fun r => _) _ _ s'
  refine wpAny_bind ?_
  unfold Builtin.Bytes.subscript?
  refine wpAny_bind (wpAny_specialOf hT slice_no_index (wpAny_pure ?_))
  refine wpAny_bind (wpAny_typeOf hT ?_)
  show wpAny _ _ (Builtin.Bytes.sliceParts (.ref a) >>= fun r => _) _ _ s'
  refine wpAny_bind ?_
  unfold Builtin.Bytes.sliceParts
  refine wpAny_bind (wpAny_field (x := .none) ho hd rfl ?_)
  kby_none
  refine wpAny_ite (KBy.ite_no (show ¬ ((Value.none == rawInt 0) = true) from Bool.false_ne_true) ?_)
  refine wpAny_bind (wpAny_field (x := .int i ti) ho hd rfl ?_)
  kby_int
  refine wpAny_bind (wpAny_field (x := .int j tj) ho hd rfl ?_)
  kby_int
  refine wpAny_pure ?_
  dsimp only
  unfold Builtin.Bytes.payload Builtin.Bytes.payload?
  refine wpAny_bind (wpAny_bind (wpAny_bind (wpAny_load h (wpAny_pure (wpAny_pure ?_)))))
  refine wpAny_bind (wpAny_of_eq (sliceIndices_raw (some (i : Int)) (some (j : Int)) none b.toArray.size (fun e => nomatch e)) ?_)
  have e : Builtin.Bytes.sliced b.toArray (sliceBounds (some (i : Int)) (some (j : Int)) none b.toArray.size).1 (sliceBounds (some (i : Int)) (some (j : Int)) none b.toArray.size).2.1 (sliceBounds (some (i : Int)) (some (j : Int)) none b.toArray.size).2.2 = (cutL b (some (i : Int)) (some (j : Int))).toArray := by
    have := KBc.picked_eq b.toArray (some (i : Int)) (some (j : Int))
    unfold KBy.picked at this
    rw [this]
    unfold cutL
    simp
  have hsz : (cutL b (some (i : Int)) (some (j : Int))).length ≤ b.length := by
    unfold cutL
    rw [List.length_take, List.length_drop]
    omega
  refine wpAny_bind ?_
  rw [show Builtin.Bytes.newBytearray (Builtin.Bytes.sliced b.toArray (sliceBounds (some (i : Int)) (some (j : Int)) none b.toArray.size).1 (sliceBounds (some (i : Int)) (some (j : Int)) none b.toArray.size).2.1 (sliceBounds (some (i : Int)) (some (j : Int)) none b.toArray.size).2.2) = Builtin.Bytes.newBytearray (cutL b (some (i : Int)) (some (j : Int))).toArray from congrArg _ e]
  unfold Builtin.Bytes.newBytearray
  exact wpAny_newObj_type (wpAny_pure ⟨_, rfl, h'⟩) (by show _ ≤ sizeLine; rw [sizeLine_eq]; simp; omega)

theorem ba_new {Q : Value → Shared → Prop} (h : s.heap.get? ba = some (baObj b)) (hl : b.length ≤ 1000000) (hQ : ∀ t k, Q (.bytes b.toArray t) { s with toks := k }) :
    codeAny (model prog w) A (.call (.builtin "bytes.__new__") ⟨[.type "bytes", .ref ba], []⟩) (wants Q E) s := by
  refine codeAny_of_tree ?_
  show wpAny _ A.in1 (do checkBuiltinCall "bytes.__new__" ⟨[.type "bytes", .ref ba], []⟩; again (.builtin "bytes.__new__" ⟨[.type "bytes", .ref ba], []⟩)) _ _ s
  refine wpAny_bind (wpAny_of_eq (PySem.F.bm_newCall _) (wpAny_pure ⟨plainId_quiet PySem.F.bm_plain _, codeAny_builtin PySem.F.bm_entry ?_⟩))
  rw [Around.under_plainId PySem.F.bm_plain _]
  have hT := ba_type h
  unfold Builtin.«bytes.__new__»
  refine wpAny_bind (wpAny_of_eq (a := true) rfl ?_)
  refine PySem.bm_if_false rfl ?_
  refine wpAny_bind (wpAny_of_eq PySem.F.bm_sub ?_)
  refine PySem.bm_if_false rfl ?_
  refine wpAny_bind (wpAny_of_eq (PySem.F.bm_bind _) ?_)
  refine wpAny_bind (wpAny_of_eq (a := ()) rfl ?_)
  refine wpAny_bind (wpAny_of_eq (a := ()) rfl ?_)
  refine PySem.bm_if_false rfl ?_
  refine wpAny_bind (wpAny_specialOf hT no_bytes_ba ?_)
  refine wpAny_bind (wpAny_bind ?_)
  show wpAny _ _ (load ba >>= _) _ _ _
  refine wpAny_bind (wpAny_load h ?_)
  refine wpAny_pure (wpAny_pure ?_)
  refine PySem.bm_if_false rfl ?_
  refine wpAny_bind (wpAny_specialOf hT no_index_ba ?_)
  refine PySem.bm_if_true rfl ?_
  first
    | show wpAny _ _ (Builtin.Bytes.buffer? "bytes.__new__" (.ref ba) true >>= _) _ _ _
    | (refine wpAny_bind ?_; show wpAny _ _ (Builtin.Bytes.buffer? "bytes.__new__" (.ref ba) true >>= _) _ _ _)
  refine wpAny_bind (buffer_ba h ?_)
  dsimp only
  refine wpAny_bind (wpAny_rule ?_)
  refine wpAny_bind (wpAny_mkBytes ?_ (by rw [sizeLine_eq]; simp; omega))
  exact wpAny_of_eq (a := PySem.Fin.done (.ret (.bytes b.toArray s.toks))) rfl (hQ _ _)
theorem ba_bytes {Q : Value → Shared → Prop} (h : s.heap.get? ba = some (baObj b)) (hl : b.length ≤ 1000000) (hQ : ∀ t k, Q (.bytes b.toArray t) { s with toks := k }) :
    wpAny (model prog w) A (call (.type "bytes") [.ref ba]) Q E s := by
  refine callType_codes (Q₁ := fun obj s₁ => s₁.TypeIs obj "bytes" ∧ Q obj s₁) PySem.F.bm_called (PySem.F.bm_typeCall _) PySem.F.entry_object_init
    (ba_new h hl fun t k => ⟨PySem.W.typeIs_bytes _ _ _, hQ t k⟩) fun obj s₁ h₁ => ?_
  exact ⟨h₁.1, PySem.F.args_object_init_2 obj _, object_init_meets PySem.F.bm_called.init.lookup PySem.F.bm_called.made (by decide) prog w A.in1 _ s₁ ⟨h₁.1, rfl, h₁.2⟩⟩
end Mine
end

/-! Ba3 -/
section
open PySem PySem.W PyProof.Rows
set_option maxRecDepth 100000
namespace Mine
variable {prog : Program} {w : World} {A : Around} {E : Value → Shared → Prop} {s : Shared} {ba : Addr} {b : List UInt8}

theorem no_index_b : typeLookup (.type "bytes") "__index__" = pure none := by rw [typeLookup_type, builtinLookup_eq_fast]; kernel_rfl
theorem buf_b : typeLookup (.type "bytes") "__buffer__" = pure (some (.builtin "bytes.__buffer__")) := by rw [typeLookup_type, builtinLookup_eq_fast]; kernel_rfl
theorem rel_b : typeLookup (.type "bytes") "__release_buffer__" = pure none := by rw [typeLookup_type, builtinLookup_eq_fast]; kernel_rfl
theorem sub_b : isSubtype (.type "bytes") (.type "bytes") = pure true := by rw [isSubtype_type]; kernel_rfl
theorem ends_b : ("bytes.__buffer__".endsWith ("." ++ "__buffer__")) = true := by decide +kernel
set_option linter.deprecated false in
theorem drop_b : ("bytes.__buffer__".dropRight ("__buffer__".length + 1)) = "bytes" := by decide +kernel
theorem buffer_b {id : String} {f : Bool} {t : Tok} {Q : Option (Array UInt8) → Shared → Prop} (q : Q (some b.toArray) s) : wpAny (model prog w) A (Builtin.Bytes.buffer? id (.bytes b.toArray t) f) Q E s := by
  have hT := PySem.W.typeIs_bytes s b.toArray t
  unfold Builtin.Bytes.buffer?
  refine wpAny_bind (wpAny_specialOf hT buf_b ?_)
  dsimp only
  refine wpAny_bind ?_
  unfold Builtin.Bytes.slotIsOwn
  refine wpAny_bind (wpAny_specialOf hT buf_b ?_)
  dsimp only
  rw [ends_b, drop_b]
  refine PySem.bm_if_false rfl (wpAny_isInstance hT sub_b ?_)
  refine PySem.bm_if_false rfl ?_
  refine wpAny_bind (wpAny_specialOf hT buf_b ?_)
  refine wpAny_bind ?_
  unfold Builtin.Bytes.ownRelease
  refine wpAny_bind ?_
  unfold Builtin.Bytes.slotIsOwn
  refine wpAny_bind (wpAny_specialOf hT rel_b (wpAny_pure (wpAny_pure ?_)))
  refine PySem.bm_if_false rfl ?_
  exact wpAny_of_eq (a := some b.toArray) rfl q
theorem release_ba (h : s.heap.get? ba = some (baObj b)) {Q : Bool → Shared → Prop} (q : Q false s) : wpAny (model prog w) A (Builtin.Bytes.ownRelease (.ref ba)) Q E s := by
  have hT := ba_type h
  unfold Builtin.Bytes.ownRelease
  refine wpAny_bind ?_
  unfold Builtin.Bytes.slotIsOwn
  refine wpAny_bind (wpAny_specialOf hT rel_ba ?_)
  dsimp only
  rw [ends_ba2, drop_ba2]
  exact PySem.bm_if_false rfl (wpAny_isInstance hT sub_ba (wpAny_pure q))
theorem write_ba {f : Array UInt8 → Array UInt8} {Q : Unit → Shared → Prop} (h : s.heap.get? ba = some (baObj b)) (hl : (f b.toArray).size ≤ 1000000)
    (q : ∀ h' : Heap, (∀ c, c ≠ ba → h'.get? c = s.heap.get? c) → h'.get? ba = some { cls := .type "bytearray", data := .bytearray (f b.toArray) } → Q () { s with heap := h' }) :
    wpAny (model prog w) A (Builtin.Bytes.write (.ref ba) f) Q E s := by
  have e := Heap.get?_update_self (Obj.mapBytearray f) h rfl
  unfold Builtin.Bytes.write updateBytearray
  refine wpAny_bind (wpAny_load h ?_)
  dsimp only
  refine wpAny_bind (wpAny_update h ?_)
  refine wpAny_lookBehind e ?_ (q _ (fun c hc => Heap.get?_update_ne _ _ _ _ hc) e)
  show (if (f b.toArray).size > sizeLine then some _ else none) = none
  exact if_neg (by rw [sizeLine_eq]; omega)
theorem bindopt_ba (v : Value) : Builtin.Bytes.bindOptional "bytearray.__init__" "bytearray" ["source", "encoding", "errors"] [v] [] = pure [some v, none, none] := by kernel_rfl
theorem sub_obj_ba : isSubtype (.type "bytearray") (.type "bytearray") = pure true := sub_ba
theorem if_falseC {α : Type} {M : Model} {c : Bool} {a b : Sem α} {Q : α → Shared → Prop} (hc : c = false) (h : wpC M A b Q E s) : wpC M A (if c = true then a else b) Q E s := by
  subst hc; exact h
theorem ba_init {t : Tok} {B : Around} {R : Result → Shared → Prop} (h : s.heap.get? ba = some (baObj [])) (hl : b.length ≤ 1000000)
    (q : ∀ h' : Heap, (∀ c, c ≠ ba → h'.get? c = s.heap.get? c) → h'.get? ba = some (baObj b) → R (.ok (.ret .none)) { s with heap := h' }) :
    wpC (model prog w) A (Builtin.«bytearray.__init__» ⟨[.ref ba, .bytes b.toArray t], []⟩) (fun fin s' => match fin with | .done f => R (.ok f) s' | .again c' => c'.quiet = true ∧ codeC (model prog w) B c' R s') (fun e s' => R (.error e) s') s := by
  unfold Builtin.«bytearray.__init__»
  refine wpC_bindA (release_ba h ?_)
  refine if_falseC rfl ?_
  refine wpC_bindA (wpAny_of_eq (bindopt_ba _) ?_)
  refine wpC_bindA (wpAny_of_eq (a := ()) rfl ?_)
  refine wpC_bindA (wpAny_of_eq (a := ()) rfl ?_)
  refine wpC_bind (wpC_bind (exported_not (wpC_of ?_)))
  show wpAny _ _ (Builtin.Bytes.exportsOf (.ref ba) >>= fun n => pure (decide (n > 0))) _ _ _
  unfold Builtin.Bytes.exportsOf
  refine wpAny_bind (wpAny_bind (wpAny_load h (wpAny_pure (wpAny_pure (wpC_of ?_)))))
  refine PySem.bm_if_false rfl ?_
  refine wpAny_bind (write_ba h (by simp) fun h1 ho1 hb1 => ?_)
  have hT := PySem.W.typeIs_bytes { s with heap := h1 } b.toArray t
  refine wpAny_bind (wpAny_of_eq (a := none) rfl ?_)
  refine PySem.bm_if_false rfl ?_
  refine wpAny_bind (wpAny_of_eq (a := ()) rfl ?_)
  refine wpAny_bind (wpAny_specialOf hT no_index_b ?_)
  refine PySem.bm_if_false rfl ?_
  refine wpAny_bind (buffer_b ?_)
  dsimp only
  refine wpAny_bind (wpAny_rule ?_)
  refine wpAny_bind (write_ba (b := []) hb1 (by simpa using hl) fun h2 ho2 hb2 => ?_)
  exact wpAny_pure (q h2 (fun c hc => (ho2 c hc).trans (ho1 c hc)) hb2)
theorem mro_ba : mroOf (.type "bytearray") = pure [.type "bytearray", .type "object"] := by rw [mroOf_type]; kernel_rfl
theorem lookup_ba_new : typeLookup (.type "bytearray") "__new__" = pure (some (.builtin "bytearray.__new__")) := by rw [typeLookup_type, builtinLookup_eq_fast]; kernel_rfl
theorem slot_ba_init : Slot "bytearray" "__init__" "bytearray.__init__" :=
  .of (owner := "bytearray") (n := "__init__") (by rw [typeLookup_type, builtinLookup_eq_fast]; kernel_rfl) (by decide +kernel) (by decide +kernel) (by decide +kernel)
    (by first | exact .inl (by decide +kernel) | exact .inr (by decide +kernel)) (by rw [isSubtype_type]; kernel_rfl)
theorem called_ba : TypeCalled "bytearray" "bytearray.__new__" "bytearray.__init__" :=
  ⟨by decide +kernel, by decide +kernel, ⟨_, _, mro_ba⟩, madeBy_type mro_ba lookup_ba_new (by decide +kernel), by decide +kernel, by rw [isSubtype_type]; kernel_rfl, slot_ba_init⟩
theorem typeCall_ba (a : Value) : checkTypeCall "bytearray" ⟨[a], []⟩ = pure () := by kernel_rfl
theorem newCall_ba (a : Value) : checkBuiltinCall "bytearray.__new__" ⟨[.type "bytearray", a], []⟩ = pure () := by kernel_rfl
theorem entry_ba_new : entryFor table "bytearray.__new__" = some Builtin.«list.__new__» := entryFor_alias (id' := "list.__new__") (by rw [fastTable_eq_tree]; kernel_rfl) (by decide +kernel) (by decide +kernel) (by rw [fastTable_eq_tree]; kernel_rfl)
theorem plain_ba_new : plainId "bytearray.__new__" = true := by decide +kernel
set_option maxRecDepth 1000000 in
set_option maxHeartbeats 4000000 in
theorem owner_ba_new : ("bytearray.__new__".splitOn ".__new__").headD "" = "bytearray" := by simp +decide [String.splitOn, String.splitOnAux]
theorem code_ba_new (a : Value) {Q₁ : Value → Shared → Prop} (h : Q₁ (.ref s.heap.objs.size) { s with heap := s.heap.push (baObj []) }) :
    codeAny (model prog w) A (.call (.builtin "bytearray.__new__") ⟨[.type "bytearray", a], []⟩) (wants Q₁ E) s := by
  refine codeAny_of_tree ?_
  show wpAny _ A.in1 (do checkBuiltinCall "bytearray.__new__" ⟨[.type "bytearray", a], []⟩; again (.builtin "bytearray.__new__" ⟨[.type "bytearray", a], []⟩)) _ _ s
  refine wpAny_bind (wpAny_of_eq (newCall_ba a) (wpAny_pure ⟨plainId_quiet plain_ba_new _, codeAny_builtin_stack entry_ba_new rfl fun p st => ?_⟩))
  rw [Around.under_plainId plain_ba_new _]
  have hsub := sub_ba
  have hown := owner_ba_new
  obtain ⟨hp, g, d, tk, os⟩ := s
  simp only [hown]
  wp_walk
  exact h
end Mine
end

/-! Ba4 -/
section
open PySem PySem.W PyProof.Rows
set_option maxRecDepth 100000
namespace Mine
variable {prog : Program} {w : World} {A : Around} {E : Value → Shared → Prop} {s : Shared} {ba : Addr} {b : List UInt8}
theorem clean_of {id : String} {args : Args} (h1 : guardIds.contains id = false) (h2 : Builtin.Bytes.decodersThatHold.contains id = false) : CleanC (.builtin id args) := ⟨h1, h2⟩
theorem codeC_call_builtin {id : String} {args : Args} {bi : Builtin} {R : Result → Shared → Prop} (cl : CleanC (.builtin id args)) (hq : plainId id = true) (hb : entryFor table id = some bi)
    (h : wpAny (model prog w) A.in1 (checkBuiltinCall id args) (fun _ s₁ => wpC (model prog w) A.in1 (bi args)
      (fun fin s' => match fin with | .done f => R (.ok f) s' | .again c' => c'.quiet = true ∧ codeC (model prog w) A c' R s') (fun e s' => R (.error e) s') s₁)
      (fun e s' => R (.error e) s') s) : codeC (model prog w) A (.call (.builtin id) args) R s := by
  refine codeC_of_tree trivial (wpC_of ?_)
  show wpAny _ A.in1 (do checkBuiltinCall id args; again (.builtin id args)) _ _ s
  refine wpAny_bind (wpAny_mono h (fun _ s₁ h₁ => wpAny_pure ⟨plainId_quiet hq _, codeC_builtin cl hb (by rw [Around.under_plainId hq _]; exact h₁)⟩) fun _ _ x => x)
theorem args_ba_init (a c : Value) : argsOk "bytearray.__init__" ⟨[a, c], []⟩ := by unfold argsOk; kernel_rfl
theorem entry_ba_init : entryFor table "bytearray.__init__" = some Builtin.«bytearray.__init__» := entryFor_of_tree (by kernel_rfl)
theorem call_ba_init {t : Tok} {R : Result → Shared → Prop} (h : s.heap.get? ba = some (baObj [])) (hl : b.length ≤ 1000000)
    (q : ∀ h' : Heap, (∀ c, c ≠ ba → h'.get? c = s.heap.get? c) → h'.get? ba = some (baObj b) → R (.ok (.ret .none)) { s with heap := h' }) :
    codeC (model prog w) A (.call (.builtin "bytearray.__init__") ⟨[.ref ba, .bytes b.toArray t], []⟩) R s :=
  codeC_call_builtin (clean_of (by decide) (by decide)) slot_ba_init.plain entry_ba_init (slot_ba_init.check _ _ _ _ _ _ _ _ (ba_type h) (args_ba_init _ _) (ba_init h hl q))
theorem ba_make {t : Tok} {Q : Value → Shared → Prop} (hl : b.length ≤ 1000000)
    (q : ∀ h' : Heap, (∀ c o, s.heap.get? c = some o → h'.get? c = some o) → h'.get? s.heap.objs.size = some (baObj b) → Q (.ref s.heap.objs.size) { s with heap := h' }) :
    wpC (model prog w) A (call (.type "bytearray") [.bytes b.toArray t]) Q E s := by
  refine wpC_call (codeC_of_tree trivial ?_)
  show wpC _ _ (callAny (.type "bytearray") _) _ _ _
  refine wpC_of (wpAny_pure ⟨Code.quiet_builtin _ (by decide +kernel), codeC_builtin (clean_of (by decide) (by decide)) F.entry_type_call ?_⟩)
  rw [Around.under_plain (weight_type_call_type "bytearray" [.bytes b.toArray t] []) rfl]
  have h2 := called_ba.canCreate
  unfold Builtin.«type.__call__»
  dsimp only
  refine if_falseC rfl ?_
  refine if_falseC h2 ?_
  refine wpC_bindA (wpAny_of_eq (typeCall_ba _) ?_)
  refine wpC_bindA (wpAny_of_eq mro_ba ?_)
  refine if_falseC rfl ?_
  refine wpC_bindA (wpAny_of_eq called_ba.made ?_)
  dsimp only
  refine wpC_bindA (wpAny_pure ?_)
  refine wpC_bindA (wpAny_holding (wpAny_call (codeAny_mono (code_ba_new (Q₁ := fun r s' => r = .ref s.heap.objs.size ∧ s' = { s with heap := s.heap.push (baObj []) }) (E := fun _ _ => False) _ ⟨rfl, rfl⟩) fun r s' hr => ?_)))
  rcases r with e | (v | _ | _ | _) <;> first | exact hr.elim | skip
  obtain ⟨hv, hs'⟩ := hr
  subst hv hs'
  have hb : (s.heap.push (baObj [])).get? s.heap.objs.size = some (baObj []) := Heap.get?_push_size _ rfl
  have hT : Shared.TypeIs { s with heap := s.heap.push (baObj []) } (.ref s.heap.objs.size) "bytearray" := ⟨_, hb, rfl⟩
  refine wpC_bindA (wpAny_isInstance hT sub_ba ?_)
  refine if_falseC rfl ?_
  refine wpC_bindB (wpC_holding ?_)
  unfold callSpecial?
  refine wpC_bindA (wpAny_specialOf hT slot_ba_init.lookup ?_)
  refine wpC_holding ?_
  refine wpC_bindA (wpAny_of_eq (slot_ba_init.bind _) ?_)
  refine wpC_bindB (wpC_call (call_ba_init hb hl fun h' ho hx => ?_))
  refine wpAny_pure ?_
  dsimp only
  refine PySem.bm_if_false rfl ?_
  refine wpAny_pure (q h' (fun c o e => ?_) hx)
  have hne : c ≠ s.heap.objs.size := Nat.ne_of_lt (Heap.lt_size e)
  exact (ho c hne).trans (Heap.get?_push_of_some _ e)
end Mine
end

/-! Str4 -/
section
open PySem PySem.W PyProof.Rows
set_option maxRecDepth 100000
namespace Mine
variable {prog : Program} {w : World} {h₁ : Heap} {n : Nat} {A : Around} {s s' : Shared} {H H' : PHeap} {r : PV} {E : Value → Shared → Prop} {K : Frag} {C x dx ba : Addr} {b : List UInt8} {p : Nat} {fread fcheck : Addr} {fd : FuncData} {sc : Scope} {env : PySem.Env}

def stN (c m : String) (i : Nat) : Stmt := (mBody c m).getD i (.Pass ⟨0, 0, 0, 0⟩)
theorem read_body : ∃ p1 p2 p3 p4 p5 p6 p7 p8 p9 q1 q2 q3 q4 q5 q6 q7 q8 q9 r1 r2 r3 r4 r5 r6 r7 r8 r9, mBody "BytesIO" "read" = [stN "BytesIO" "read" 0, stN "BytesIO" "read" 1,
    .Expr (.Call (.Attribute (.Name (nm "self") p1) (nm "_BytesIO__check") p2) [] [] p3) p4,
    .Assign [.Name (nm "start") p5] (.Attribute (.Name (nm "self") p6) (nm "_BytesIO__pos") p7) p8,
    .Assign [.Name (nm "stop") p9] (.Call (.Name (nm "len") q1) [.Attribute (.Name (nm "self") q2) (nm "_BytesIO__buf") q3] [] q4) q5,
    stN "BytesIO" "read" 5, stN "BytesIO" "read" 6,
    .Assign [.Attribute (.Name (nm "self") q6) (nm "_BytesIO__pos") q7] (.Name (nm "stop") q8) q9,
    .Return (some (.Call (.Name (nm "bytes") r1) [.Subscript (.Attribute (.Name (nm "self") r2) (nm "_BytesIO__buf") r3) (.Slice (some (.Name (nm "start") r4)) (some (.Name (nm "stop") r5)) none r6) r7] [] r8)) r9] ∧ p2.endLine = p3.line :=
  ⟨_, _, _, _, _, _, _, _, _, _, _, _, _, _, _, _, _, _, _, _, _, _, _, _, _, _, _, by with_unfolding_all rfl, by with_unfolding_all rfl⟩
end Mine
namespace Mine
variable {prog : Program} {w : World} {h₁ : Heap} {n : Nat} {A : Around} {s s' s'' : Shared} {H H' : PHeap} {r : PV} {E : Value → Shared → Prop} {K : Frag} {C x dx ba : Addr} {b : List UInt8} {p : Nat} {fread fcheck : Addr} {fd fd' : FuncData} {sc : Scope} {env : PySem.Env} {Mu : Addr → Prop} {σ : Vars} {s₀ : Shared} {H₀ : PHeap}

theorem keepIn_of {f : Addr} {pa : Arguments} {bd : List Stmt} (F : FnAt K f pa bd sc fd) : keepIn K (.ref f) = true := by
  obtain ⟨oc, od, osl, q⟩ := F.obj
  unfold keepIn
  dsimp only
  rw [q]
theorem After.weak {H' : PHeap} (a : After s H s' H') : After s H s' H := ⟨a.same, a.keep, fun x o e => a.sub x o (a.grow x o e), fun _ _ e => e, fun _ _ e => .inl e⟩
/-- a method of the stream is called, no argument -/
theorem meth0 {y m : Str} {p0 apos pos : Pos} {Q : Value → Shared → Prop} {f : Addr} (ok : EnvOk sc env) (X : K.In s.heap) (hk : keepIn K (.ref f) = true) (hy : VarIs env s.heap y (.ref x)) (hp : apos.endLine = pos.line)
    (hm : ∀ (pl : Sem Bool) (Q : Value × List Value → Shared → Prop), Q (.ref f, [.ref x]) s → wpAny (model prog w) A (getMethod (.ref x) m pl) Q E s) (q : wpAny (model prog w) A (call (.ref f) [.ref x]) Q E s) :
    wpAny (model prog w) A (eval (.Call (.Attribute (.Name y p0) m apos) [] [] pos) env) Q E s := by
  rw [arm_eval_Call, base_whole rfl]
  refine wpAny_bind (name_read ok.kind hy ?_)
  refine wpAny_bind (wpAny_standAt ?_)
  have hform : methodCallForm (([] : List Expr).length + ([] : List Keyword).length) (backTo pos (starEach [] env)) (backToKw pos (keywordEach [] env)) = true := by rfl
  have hpos : methodCallPos true (.Name y p0) env apos pos = pure pos := by unfold methodCallPos; simp [hp]
  unfold methodCall
  rw [hform]
  refine wpAny_bind (wpAny_holding (hm _ _ ?_))
  refine wpAny_bind (wpAny_of_eq hpos ?_)
  exact callWith_K0 X hk q
/-- the same, one argument -/
theorem meth1 {y m : Str} {p0 apos pos : Pos} {Q : Value → Shared → Prop} {f : Addr} {a : Expr} (ok : EnvOk sc env) (X : K.In s.heap) (hk : keepIn K (.ref f) = true) (hy : VarIs env s.heap y (.ref x)) (hp : apos.endLine = pos.line) (ha : notStar a = true)
    (hm : ∀ (pl : Sem Bool) (Q : Value × List Value → Shared → Prop), Q (.ref f, [.ref x]) s → wpAny (model prog w) A (getMethod (.ref x) m pl) Q E s) (q : wpAny (model prog w) A (eval a env) (fun v s' => K.In s'.heap ∧ wpAny (model prog w) A (call (.ref f) [.ref x, v]) Q E s') E s) :
    wpAny (model prog w) A (eval (.Call (.Attribute (.Name y p0) m apos) [a] [] pos) env) Q E s := by
  rw [arm_eval_Call, base_whole rfl]
  refine wpAny_bind (name_read ok.kind hy ?_)
  refine wpAny_bind (wpAny_standAt ?_)
  have htrees : backTo pos (starEach [a] env) = [(false, eval a env)] := by rw [starEach_plain ha]; rfl
  have hform : methodCallForm (([a] : List Expr).length + ([] : List Keyword).length) (backTo pos (starEach [a] env)) (backToKw pos (keywordEach [] env)) = true := by rw [htrees]; rfl
  have hpos : methodCallPos true (.Name y p0) env apos pos = pure pos := by unfold methodCallPos; simp [hp]
  unfold methodCall
  rw [hform]
  refine wpAny_bind (wpAny_holding (hm _ _ ?_))
  refine wpAny_bind (wpAny_of_eq hpos ?_)
  rw [htrees]
  refine callWith_of (P := K.In) rfl (keeps_K hk) (Calls.evalArgs_plain (Calls.spliced_cons (wpAny_mono q (fun v s' h => Calls.spliced_nil h) fun _ _ h => h)))
theorem FB.put (b : FB prog w h₁ Mu sc env σ s₀ H₀ s H) (ok : EnvOk sc env) {y : Str} {v : Value} {q : PV} {Q : Unit → Shared → Prop} (hy : stOk sc y = true) (hv : Rep prog w H v q)
    (N : ∀ s', FB prog w h₁ Mu sc env (putV σ y (.val q)) s₀ H₀ s' H → Touch Mu s s' → Q () s') : wpAny (model prog w) A (storeName env y v) Q E s :=
  b.toBlk.store_val ok.kind ok.toKindOk hy hv fun s' b' t => N s' ⟨b', b.fresh⟩ t
theorem FB.read (b : FB prog w h₁ Mu sc env σ s₀ H₀ s H) {y : Str} {q : PV} (h : lookV σ y = some (.val q)) : ∃ v, VarIs env s.heap y v ∧ Rep prog w H v q := b.vars.val y q h
def TR : Tbl := tb [(nm "_index", ixF)]
def rdS (x : Addr) (sz : Nat) : Vars := [(nm "self", .val (.raw (.ref x))), (nm "size", .val (.int sz))]
theorem rd12 (x : Addr) (sz : Nat) (k : KS) : exList (exN TR (mSc "BytesIO" "read") 16 4000 8) [stN "BytesIO" "read" 0, stN "BytesIO" "read" 1] (rdS x sz) k =
   gate (decide ((0:Int) ≤ (sz : Int)) && decide ((sz : Int) ≤ 1000000000000)) (k .next (rdS x sz)) := by kernel_rfl
def rdS2 (x : Addr) (sz p l : Nat) : Vars := [(nm "self", .val (.raw (.ref x))), (nm "size", .val (.int sz)), (nm "start", .val (.int p)), (nm "stop", .val (.int l))]
theorem rd5 (x : Addr) (sz p l : Nat) (k : KS) : exN TR (mSc "BytesIO" "read") 16 4000 8 (stN "BytesIO" "read" 5) (rdS2 x sz p l) k = bif decide ((l : Int) ≤ (p : Int)) then k (.ret (.bytes [])) (rdS2 x sz p l) else k .next (rdS2 x sz p l) := by kernel_rfl
theorem rd6 (x : Addr) (sz p l : Nat) (k : KS) : exN TR (mSc "BytesIO" "read") 16 4000 8 (stN "BytesIO" "read" 6) (rdS2 x sz p l) k =
  bif decide ((0 : Int) ≤ (sz : Int)) then (bif decide ((p : Int) + (sz : Int) < (l : Int)) then k .next [(nm "self", .val (.raw (.ref x))), (nm "size", .val (.int sz)), (nm "start", .val (.int p)), (nm "stop", .val (.int ((p : Int) + (sz : Int))))] else k .next (rdS2 x sz p l)) else k .next (rdS2 x sz p l) := by kernel_rfl
end Mine
end

/-! Str5 -/
section
open PySem PySem.W PyProof.Rows
set_option maxRecDepth 100000
namespace Mine
variable {prog : Program} {w : World} {h₁ : Heap} {n : Nat} {A : Around} {s s' s'' : Shared} {H H' : PHeap} {r : PV} {E : Value → Shared → Prop} {K : Frag} {C x dx ba : Addr} {b : List UInt8} {p : Nat} {fread fcheck : Addr} {fd fd' : FuncData} {sc : Scope} {env : PySem.Env} {Mu : Addr → Prop} {σ : Vars} {s₀ : Shared} {H₀ : PHeap}

/-- the stream is read on: only its own dict is another -/
structure Moved (C x dx ba : Addr) (b : List UInt8) (p : Nat) (H : PHeap) (s s' : Shared) : Prop where
  mid : ∃ g₀ : Heap, (∀ c, c ≠ dx → g₀.get? c = s.heap.get? c) ∧ StreamAt C g₀ x dx ba b p ∧ After { s with heap := g₀ } H s' H
theorem readCut (b : List UInt8) (p sz : Nat) (h : p < b.length) : cutL b (some ((p : Nat) : Int)) (some ((min (p + sz) b.length : Nat) : Int)) = (b.drop p).take sz := by
  unfold cutL
  rw [show (some ((p : Nat) : Int)).elim 0 (clipAt b.length) = p from ?_, show (some ((min (p + sz) b.length : Nat) : Int)).elim b.length (clipAt b.length) = min (p + sz) b.length from ?_]
  · rw [List.take_eq_take_iff]
    simp
    omega
  · show clipAt b.length ((min (p + sz) b.length : Nat) : Int) = _
    rw [clipAt_nat]
    omega
  · show clipAt b.length ((p : Nat) : Int) = _
    rw [clipAt_nat]
    omega
theorem stream_not_cell {h : Heap} (S : StreamAt C h x dx ba b p) : ∀ v, ¬ h.IsCell dx v := by
  rintro v ⟨o, z, hd⟩
  obtain ⟨_, _, _, _, _, e⟩ := S.dict
  rw [e] at z; cases z; cases hd
theorem read_call {sz : Nat} {t : Tok} {Q : Value → Shared → Prop} (X : K.In h₁) (lim : h₁.NoLimit) (F : FnAt K fread (mPar "BytesIO" "read") (mBody "BytesIO" "read") (mSc "BytesIO" "read") fd)
    (hb : ∀ s : Shared, K.In s.heap → ∀ v1 v2, BindsTo s fd ⟨[v1, v2], []⟩ [(nm "self", v1), (nm "size", v2)])
    (F' : FnAt K fcheck (mPar "BytesIO" "__check") (mBody "BytesIO" "__check") (mSc "BytesIO" "__check") fd') (hd : fd'.defaults = .none) (hk : fd'.kwdefaults = .none)
    (TO : TblOk prog w h₁ (n + 2) TR) (gl : GlobIs h₁ (Str.ofString "len") (.builtin "len")) (gb : GlobIs h₁ (Str.ofString "bytes") (.type "bytes"))
    (Y : ClsK K C fread fcheck) (S : StreamAt C s.heap x dx ba b p) (R : Room (n + 3) A) (g : Base h₁ H s) (hH : H dx = none) (hl : b.length ≤ 1000000) (hp : p ≤ b.length) (hz : sz ≤ 1000000000000)
    (q : ∀ s' t', Moved C x dx ba b (min (p + sz) b.length) H s s' → Q (.bytes ((b.drop p).take sz).toArray t') s') : wpAny (model prog w) A (call (.ref fread) [.ref x, .int sz t]) Q E s := by
  obtain ⟨o, ho, hod⟩ := F.get X
  have hs := F.scope
  refine wpAny_call (code_open (n := n + 2) (pb := [(nm "self", .raw (.ref x)), (nm "size", .int sz)]) (g.keep _ _ ho) hod (lim.keeps g.keep) ((codeRec_of X F.code).keeps g.keep) F.body F.clo F.glob F.blt (by rw [hs]; kernel_rfl)
    (hb s (X.keeps g.keep) _ _) (.cons (.raw _) (.cons (.int _ _) .nil)) R g fun env Mu s₁ ok R' fb => ?_)
  rw [hs] at ok fb
  obtain ⟨p1, p2, p3, p4, p5, p6, p7, p8, p9, q1, q2, q3, q4, q5, q6, q7, q8, q9, r1, r2, r3, r4, r5, r6, r7, r8, r9, e, ep⟩ := read_body
  rw [e]
  have SX : ∀ {s₀ H₀}, SndX prog w h₁ (n + 2) (mSc "BytesIO" "read") env s₀ H₀ (exN TR (mSc "BytesIO" "read") 16 4000 8) := exN_sound TO ok 15 4000 8
  have dxs : s.heap.get? dx ≠ none := by
    obtain ⟨_, _, _, _, _, e⟩ := S.dict
    rw [e]; exact fun z => nomatch z
  have hH' : ∀ {Mu' σ s' H'}, FB prog w h₁ Mu' (mSc "BytesIO" "read") env σ s H s' H' → H' dx = none := fun {Mu' σ s' H'} fb => by
    cases q : H' dx with
    | none => rfl
    | some o =>
      rcases fb.mid.fresh dx o q with z | z
      · rw [hH] at z; cases z
      · exact absurd z dxs
  have kS : ∀ {Mu' σ s' H'}, FB prog w h₁ Mu' (mSc "BytesIO" "read") env σ s H s' H' → StreamAt C s'.heap x dx ba b p ∧ K.In s'.heap := fun fb => ⟨S.keeps fb.finish.keep, X.keeps fb.base.keep⟩
  refine seg_step SX R' (ss := [stN "BytesIO" "read" 0, stN "BytesIO" "read" 1]) (P := fun f σ' => f = .next ∧ σ' = rdS x sz) (fun k hk => ?_) fb (fun fl f σ' Mu₂ s₂ H₂ fb₂ _ m P => ?_) fun v p σ' s' H' _ _ P => nomatch P.1
  · rw [show valsOf [(nm "self", PV.raw (.ref x)), (nm "size", PV.int sz)] = rdS x sz from rfl, rd12, gateT (by rw [decide_eq_true (by omega), decide_eq_true (by omega)]; rfl)]
    exact hk _ _ ⟨rfl, rfl⟩
  obtain ⟨rfl, rfl⟩ := P
  cases m
  -- self.__check()
  obtain ⟨S₂, X₂⟩ := kS fb₂
  obtain ⟨v₂, hv₂, hr₂⟩ := fb₂.read (y := nm "self") (q := .raw (.ref x)) rfl
  cases hr₂
  refine wpAny_execs_cons (wpAny_Expr_any (meth0 ok X₂ (keepIn_of F') hv₂ ep (fun pl Q q => meth_check X₂ Y S₂ q) (check_call (n := n + 1) X lim F' hd hk Y S₂ R' fb₂.base fun s₃ a₃ => ?_)) (not_inter ok) (swaps_plain rfl _ _))
  have fb₃ := fb₂.after a₃
  obtain ⟨S₃, X₃⟩ := kS fb₃
  obtain ⟨v₃, hv₃, hr₃⟩ := fb₃.read (y := nm "self") (q := .raw (.ref x)) rfl
  cases hr₃
  -- start = self.__pos
  refine wpAny_execs_cons (wpAny_Assign_Name (Attribute_name (name_read ok.kind hv₃ (get_pos X₃ Y S₃ fun t₃ => ?_))) (swaps_plain rfl _ _))
  have fb₄ := fb₃.after (.tok (t := s₃.toks + 1) fb₃.base.sub)
  refine fb₄.put ok (by kernel_rfl) (.int (p : Int) t₃) fun s₅ fb₅ _ => ?_
  obtain ⟨S₅, X₅⟩ := kS fb₅
  obtain ⟨v₅, hv₅, hr₅⟩ := fb₅.read (y := nm "self") (q := .raw (.ref x)) rfl
  cases hr₅
  -- stop = len(self.__buf)
  refine wpAny_execs_cons (wpAny_Assign_Name (wpAny_Call_Name_kw (name_glob ok (by kernel_rfl) (by unfold nameOk; decide) (gl.keeps fb₅.base.keep) ?_)) (swaps_plain rfl _ _))
  refine Calls.callWith_builtin rfl (Calls.evalArgs_plain (Calls.spliced_cons (Attribute_name (name_read ok.kind hv₅ (get_buf X₅ Y S₅ (Calls.spliced_nil ?_))))))
  refine ba_len S₅.buf hl ?_
  have fb₆ := fb₅.after (.tok (t := s₅.toks + 1 + 1 + 1) fb₅.base.sub)
  refine fb₆.put ok (by kernel_rfl) (.int (b.length : Int) _) fun s₇ fb₇ _ => ?_
  have sig₇ : putV (putV (rdS x sz) (nm "start") (.val (.int (p : Int)))) (nm "stop") (.val (.int (b.length : Int))) = rdS2 x sz p b.length := by kernel_rfl
  rw [sig₇] at fb₇
  -- if start >= stop: return b''
  refine wpAny_execs_cons (stmt_step SX R' (P := fun f σ' => σ' = rdS2 x sz p b.length ∧ ((f = .ret (.bytes []) ∧ b.length ≤ p) ∨ (f = .next ∧ p < b.length))) (fun k hk => ?_) fb₇ (fun fl f σ' Mu₈ s₈ H₈ fb₈ _ m P => ?_) fun v pv σ' s' H' a hv P => ?_)
  · rw [rd5]
    by_cases c : b.length ≤ p
    · rw [decide_eq_true (by omega)]
      exact hk _ _ ⟨rfl, .inl ⟨rfl, c⟩⟩
    · rw [decide_eq_false (by omega)]
      exact hk _ _ ⟨rfl, .inr ⟨rfl, by omega⟩⟩
  rotate_left
  · obtain ⟨rfl, ⟨e1, c⟩ | ⟨e1, _⟩⟩ := P
    · cases e1
      cases hv
      have ec : (b.drop p).take sz = [] := by rw [List.drop_eq_nil_of_le c, List.take_nil]
      have em : min (p + sz) b.length = p := by omega
      have := q s' (by assumption) ⟨s.heap, fun _ _ => rfl, by rw [em]; exact S, a.weak⟩
      rw [ec] at this
      exact this
    · cases e1
  obtain ⟨rfl, ⟨e1, _⟩ | ⟨rfl, c⟩⟩ := P
  · cases m <;> cases e1
  cases m
  -- if size >= 0 and start + size < stop: stop = start + size
  refine wpAny_execs_cons (stmt_step SX R' (P := fun f σ' => f = .next ∧ σ' = rdS2 x sz p (min (p + sz) b.length)) (fun k hk => ?_) fb₈ (fun fl f σ' Mu₉ s₉ H₉ fb₉ _ m P => ?_) fun v p σ' s' H' _ _ P => nomatch P.1)
  · rw [rd6, decide_eq_true (by omega)]
    by_cases c2 : p + sz < b.length
    · rw [decide_eq_true (by omega)]
      refine hk _ _ ⟨rfl, ?_⟩
      unfold rdS2
      rw [show min (p + sz) b.length = p + sz by omega]
      rfl
    · rw [decide_eq_false (by omega)]
      refine hk _ _ ⟨rfl, ?_⟩
      rw [show min (p + sz) b.length = b.length by omega]
  obtain ⟨rfl, rfl⟩ := P
  cases m
  -- self.__pos = stop
  obtain ⟨S₉, X₉⟩ := kS fb₉
  obtain ⟨vs, hvs, hrs⟩ := fb₉.read (y := nm "self") (q := .raw (.ref x)) rfl
  cases hrs
  obtain ⟨vt, hvt, hrt⟩ := fb₉.read (y := nm "stop") (q := .int ((min (p + sz) b.length : Nat) : Int)) rfl
  cases hrt
  rename_i tt
  refine wpAny_execs_cons (plainObj_wpAny_Assign_Attribute (name_read ok.kind hvt (name_read ok.kind hvs (set_pos X₉ Y S₉ fun h' ho' S' => ?_))) (swaps_plain rfl _ _))
  obtain ⟨g1, g2, u1, u2, u3, hd'⟩ := S'.dict
  have dxu := S.dict
  obtain ⟨_, _, _, _, _, dxu⟩ := dxu
  let nd : Obj := dictOf (esOf g1 g2 u1 u2 u3 ba (min (p + sz) b.length)) 2
  let g₀ : Heap := s.heap.update dx (fun _ => nd)
  have hg₀ : ∀ c, c ≠ dx → g₀.get? c = s.heap.get? c := fun c hc => Heap.get?_update_ne _ _ _ _ hc
  have hgx : g₀.get? dx = some nd := Heap.get?_update_self _ dxu rfl
  have nm9 : ¬ Mu₉ dx := fun m => absurd (fb₉.fresh dx m) dxs
  have fbA := fb₉.poke (g₀ := g₀) (h' := h') (o' := nd) (t := s₉.toks + 2) nm9 (hH' fb₉) (stream_not_cell S₉) hg₀ (fun o e => by rw [hgx] at e; cases e; rfl) ho' hd'
  have xne : x ≠ dx := fun z => by
    have := S.inst
    rw [z, dxu] at this
    cases this
  have bne : ba ≠ dx := fun z => by
    have := S.buf
    rw [z, dxu] at this
    have := congrArg (fun o : Option Obj => o.map Obj.cls) this
    simp at this
  have Sg : StreamAt C g₀ x dx ba b (min (p + sz) b.length) := ⟨(hg₀ x xne).trans S.inst, ⟨_, _, _, _, _, hgx⟩, (hg₀ ba bne).trans S.buf⟩
  -- return bytes(self.__buf[start:stop])
  have XA : K.In h' := X.keeps fbA.base.keep
  obtain ⟨vs, hvs, hrs⟩ := fbA.read (y := nm "self") (q := .raw (.ref x)) rfl
  cases hrs
  obtain ⟨vt, hvt, hrt⟩ := fbA.read (y := nm "stop") (q := .int ((min (p + sz) b.length : Nat) : Int)) rfl
  cases hrt
  rename_i tb
  obtain ⟨va, hva, hra⟩ := fbA.read (y := nm "start") (q := .int (p : Int)) rfl
  cases hra
  rename_i ta
  refine wpAny_execs_cons (wpAny_Return_some (wpAny_Call_Name_kw (name_glob ok (by kernel_rfl) (by unfold nameOk; decide) (gb.keeps fbA.base.keep) ?_)))
  refine callWith_of (P := fun _ => True) rfl (fun h _ => keeper_plain rfl h _) (Calls.evalArgs_plain (Calls.spliced_cons (Subscript_ (Attribute_name (name_read ok.kind hvs (get_buf XA Y S' ?_))))))
  refine wpAny_Slice (wpAny_evalPart_some (name_read ok.kind hva (wpAny_evalPart_some (name_read ok.kind hvt (wpAny_evalPart_none ?_)))))
  have pk : ∀ {h : Heap} {o : Obj} {c : Addr} {o' : Obj}, h.get? c = some o' → (h.push o).get? c = some o' := fun e => Heap.get?_push_of_some _ e
  obtain ⟨ops, hops⟩ := subscripted_ops (.Slice (some (.Name (nm "start") r4)) (some (.Name (nm "stop") r5)) none r6) (.ref ba) (.ref h'.objs.size)
  have bb : (h'.push { cls := .type "slice", data := .fields #[.int (p : Int) ta, .int ((min (p + sz) b.length : Nat) : Int) tb, .none] }).get? ba = some (baObj b) := pk S'.buf
  refine tail_any (ba_type bb) slot_ba_getitem.lookup (ba_slice (i := p) (j := min (p + sz) b.length) bb ⟨_, Heap.get?_push_size _ rfl, rfl, rfl⟩ hl ?_) hops
  rw [readCut b p sz c]
  refine Calls.spliced_nil ⟨trivial, ?_⟩
  refine ba_bytes (Heap.get?_push_size _ rfl) (by rw [List.length_take, List.length_drop]; omega) fun t' k => ?_
  refine q _ t' ⟨g₀, hg₀, Sg, ?_⟩
  have fin := fbA.finish.weak
  exact fin.trans (After.upd (fin.sub) (fun a o e => pk (pk e)))
end Mine
end

/-! Str6 -/
section
open PySem PySem.W PyProof.Rows
set_option maxRecDepth 100000
namespace Mine
variable {prog : Program} {w : World} {h₁ : Heap} {n : Nat} {A : Around} {s s' s'' : Shared} {H H' : PHeap} {r : PV} {E : Value → Shared → Prop} {K : Frag} {C x dx ba : Addr} {b : List UInt8} {p p' : Nat} {fread fcheck : Addr} {fd fd' : FuncData} {sc : Scope} {env : PySem.Env} {Mu : Addr → Prop} {σ : Vars} {s₀ : Shared} {H₀ : PHeap}

/-- all that reading a stream leans on -/
structure StrK (prog : Program) (w : World) (h₁ : Heap) (K : Frag) (C fread fcheck : Addr) : Prop where
  X : K.In h₁
  lim : h₁.NoLimit
  read : ∃ fd, FnAt K fread (mPar "BytesIO" "read") (mBody "BytesIO" "read") (mSc "BytesIO" "read") fd ∧ ∀ s : Shared, K.In s.heap → ∀ v1 v2, BindsTo s fd ⟨[v1, v2], []⟩ [(nm "self", v1), (nm "size", v2)]
  check : ∃ fd, FnAt K fcheck (mPar "BytesIO" "__check") (mBody "BytesIO" "__check") (mSc "BytesIO" "__check") fd ∧ fd.defaults = .none ∧ fd.kwdefaults = .none
  TO : ∀ n, TblOk prog w h₁ (n + 1) TR
  len : GlobIs h₁ (Str.ofString "len") (.builtin "len")
  bytes : GlobIs h₁ (Str.ofString "bytes") (.type "bytes")
  cls : ClsK K C fread fcheck
theorem StrK.call (Z : StrK prog w h₁ K C fread fcheck) {sz : Nat} {t : Tok} {Q : Value → Shared → Prop} (S : StreamAt C s.heap x dx ba b p) (R : Room (n + 3) A) (g : Base h₁ H s) (hH : H dx = none) (hl : b.length ≤ 1000000) (hp : p ≤ b.length) (hz : sz ≤ 1000000000000)
    (q : ∀ s' t', Moved C x dx ba b (min (p + sz) b.length) H s s' → Q (.bytes ((b.drop p).take sz).toArray t') s') : wpAny (model prog w) A (call (.ref fread) [.ref x, .int sz t]) Q E s := by
  obtain ⟨fd, F, hb⟩ := Z.read
  obtain ⟨fd', F', hd, hk⟩ := Z.check
  exact read_call Z.X Z.lim F hb F' hd hk (Z.TO (n + 1)) Z.len Z.bytes Z.cls S R g hH hl hp hz q

/-- the frame's start, as far as the stream goes: either it is not there, or it is read on too -/
def Start (C x dx ba : Addr) (b : List UInt8) (p : Nat) (h : Heap) : Prop := h.get? dx = none ∨ StreamAt C h x dx ba b p
/-- what a start may become -/
def StartTo (C x dx ba : Addr) (b : List UInt8) (p' : Nat) (h g : Heap) : Prop := (∀ c, c ≠ dx → g.get? c = h.get? c) ∧ (h.get? dx = none → g = h) ∧ (∀ p, StreamAt C h x dx ba b p → StreamAt C g x dx ba b p')
theorem StartTo.trans {h g k : Heap} {p q : Nat} (a : StartTo C x dx ba b p h g) (c : StartTo C x dx ba b q g k) : StartTo C x dx ba b q h k :=
  ⟨fun y hy => (c.1 y hy).trans (a.1 y hy), fun e => (c.2.1 (by rw [a.2.1 e]; exact e)).trans (a.2.1 e), fun r e => c.2.2 p (a.2.2 r e)⟩
theorem StartTo.start {h g : Heap} {p : Nat} (a : StartTo C x dx ba b p h g) (c : ∃ q, Start C x dx ba b q h) : Start C x dx ba b p g := by
  obtain ⟨q, c | c⟩ := c
  · exact .inl (by rw [a.2.1 c]; exact c)
  · exact .inr (a.2.2 q c)
theorem FB.moved (fb : FB prog w h₁ Mu sc env σ s₀ H₀ s H) (M : Moved C x dx ba b p' H s s') (S : StreamAt C s.heap x dx ba b p) (hm : ¬ Mu dx) (hH : H dx = none) (Z : Start C x dx ba b p s₀.heap) :
    ∃ g₀ : Heap, StartTo C x dx ba b p' s₀.heap g₀ ∧ FB prog w h₁ Mu sc env σ { s₀ with heap := g₀ } H₀ s' H ∧ StreamAt C s'.heap x dx ba b p' := by
  obtain ⟨g, hg, Sg, a⟩ := M.mid
  obtain ⟨g1, g2, u1, u2, u3, hd⟩ := Sg.dict
  have S' := Sg.keeps a.keep
  rcases Z with z | z
  · have f := fb.poke (g₀ := s₀.heap) (h' := g) (o' := _) (t := s.toks) hm hH (stream_not_cell S) (fun _ _ => rfl) (fun o e => by rw [z] at e; cases e) hg hd
    refine ⟨s₀.heap, ⟨fun _ _ => rfl, fun _ => rfl, fun q e => ?_⟩, f.after a, S'⟩
    obtain ⟨_, _, _, _, _, e⟩ := e.dict
    rw [z] at e; cases e
  · obtain ⟨_, _, _, _, _, dxu⟩ := z.dict
    have hgx : (s₀.heap.update dx (fun _ => dictOf (esOf g1 g2 u1 u2 u3 ba p') 2)).get? dx = some (dictOf (esOf g1 g2 u1 u2 u3 ba p') 2) := Heap.get?_update_self _ dxu rfl
    have hgo : ∀ c, c ≠ dx → (s₀.heap.update dx (fun _ => dictOf (esOf g1 g2 u1 u2 u3 ba p') 2)).get? c = s₀.heap.get? c := fun c hc => Heap.get?_update_ne _ _ _ _ hc
    have f := fb.poke (h' := g) (o' := _) (t := s.toks) hm hH (stream_not_cell S) hgo (fun o e => by rw [hgx] at e; cases e; rfl) hg hd
    refine ⟨_, ⟨hgo, fun e => absurd (dxu.symm.trans e) (fun z => nomatch z), fun q e => ?_⟩, f.after a, S'⟩
    have xne : x ≠ dx := fun y => by
      have := e.inst
      rw [y, dxu] at this
      cases this
    have bne : ba ≠ dx := fun y => by
      have := e.buf
      rw [y, dxu] at this
      have := congrArg (fun o : Option Obj => o.map Obj.cls) this
      simp at this
    exact ⟨(hgo x xne).trans e.inst, ⟨_, _, _, _, _, hgx⟩, (hgo ba bne).trans e.buf⟩
/-- the stream's objects are none of the block's -/
def Off (Mu : Addr → Prop) (x dx ba : Addr) : Prop := ¬ Mu x ∧ ¬ Mu dx ∧ ¬ Mu ba
theorem StreamAt.step {Mu' : Addr → Prop} (S : StreamAt C s.heap x dx ba b p) (o : Off Mu x dx ba) (st : Step Mu s H Mu' s' H') : StreamAt C s'.heap x dx ba b p :=
  ⟨st.keep _ _ o.1 S.inst, let ⟨a, b, c, d, e, f⟩ := S.dict; ⟨a, b, c, d, e, st.keep _ _ o.2.1 f⟩, st.keep _ _ o.2.2 S.buf⟩
theorem Off.step {Mu' : Addr → Prop} (o : Off Mu x dx ba) (S : StreamAt C s.heap x dx ba b p) (st : Step Mu s H Mu' s' H') : Off Mu' x dx ba := by
  refine ⟨fun m => ?_, fun m => ?_, fun m => ?_⟩
  · rcases st.new _ m with z | z
    · exact o.1 z
    · rw [S.inst] at z; cases z
  · obtain ⟨_, _, _, _, _, e⟩ := S.dict
    rcases st.new _ m with z | z
    · exact o.2.1 z
    · rw [e] at z; cases z
  · rcases st.new _ m with z | z
    · exact o.2.2 z
    · rw [S.buf] at z; cases z
theorem StreamAt.touch (S : StreamAt C s.heap x dx ba b p) (o : Off Mu x dx ba) (t : Touch Mu s s') : StreamAt C s'.heap x dx ba b p :=
  ⟨t.keep _ _ o.1 S.inst, let ⟨a, b, c, d, e, f⟩ := S.dict; ⟨a, b, c, d, e, t.keep _ _ o.2.1 f⟩, t.keep _ _ o.2.2 S.buf⟩
theorem step_none {Mu' : Addr → Prop} {a : Addr} (hH : H a = none) (e : s.heap.get? a ≠ none) (st : Step Mu s H Mu' s' H') : H' a = none := by
  cases q : H' a with
  | none => rfl
  | some o =>
    rcases st.fresh a o q with z | z
    · rw [hH] at z; cases z
    · exact absurd z e
theorem StreamAt.there (S : StreamAt C s.heap x dx ba b p) : s.heap.get? dx ≠ none := by
  obtain ⟨_, _, _, _, _, e⟩ := S.dict
  rw [e]; exact fun z => nomatch z
/-- y = sv.read(z) -/
theorem read_stmt (Z : StrK prog w h₁ K C fread fcheck) (ok : EnvOk sc env) {y sv : Str} {ar : Expr} {sz : Nat} {py p1 p2 p3 p4 : Pos} {Q : Flow → Shared → Prop} (fb : FB prog w h₁ Mu sc env σ s₀ H₀ s H) (S : StreamAt C s.heap x dx ba b p) (hm : Off Mu x dx ba) (hH : H dx = none)
    (St : Start C x dx ba b p s₀.heap) (R : Room (n + 3) A) (hl : b.length ≤ 1000000) (hp : p ≤ b.length) (hz : sz ≤ 1000000000000) (hpos : p2.endLine = p3.line) (hy : stOk sc y = true) (hsv : lookV σ sv = some (.val (.raw (.ref x)))) (hns : notStar ar = true)
    (har : ∀ {Q : Value → Shared → Prop}, (∀ t s', After s H s' H → Q (.int sz t) s') → wpAny (model prog w) A (eval ar env) Q E s)
    (N : ∀ g₀ s', StartTo C x dx ba b (min (p + sz) b.length) s₀.heap g₀ → FB prog w h₁ Mu sc env (putV σ y (.val (.bytes ((b.drop p).take sz)))) { s₀ with heap := g₀ } H₀ s' H → StreamAt C s'.heap x dx ba b (min (p + sz) b.length) → Q .next s') :
    wpAny (model prog w) A (exec (.Assign [.Name y py] (.Call (.Attribute (.Name sv p1) (nm "read") p2) [ar] [] p3) p4) env) Q E s := by
  obtain ⟨v, hv, hr⟩ := fb.read hsv
  cases hr
  obtain ⟨fd, F, _⟩ := Z.read
  have X : K.In s.heap := Z.X.keeps fb.base.keep
  refine wpAny_Assign_Name (meth1 ok X (keepIn_of F) hv hpos hns (fun pl Q q => meth_read X Z.cls S q) (har fun t s₁ a => ⟨X.keeps a.keep, ?_⟩)) (swaps_plain rfl _ _)
  have fb₁ := fb.after a
  have S₁ := S.keeps a.keep
  refine Z.call (n := n) S₁ R fb₁.base hH hl hp hz fun s₂ t' M => ?_
  obtain ⟨g₀, T, fb₂, S₂⟩ := fb₁.moved M S₁ hm.2.1 hH St
  refine fb₂.put ok hy (.bytes _ t') fun s₃ fb₃ t₃ => ?_
  exact N g₀ s₃ T fb₃ (S₂.touch hm t₃)
end Mine
end

/-! Sp6 -/
section
open PySem
set_option maxRecDepth 100000
namespace Mine

theorem dn_tree1 (x0 : UInt8) : runF base "decode_num" [.bytes [x0]] = bif decide (128 ≤ ((x0.toNat : Nat) : Int)) then gate (small (Builtin.bitAnd (leV [x0] : Nat) 127) && true) (some (.int (Builtin.bitAnd (leV [x0] : Nat) 127 * -1))) else some (.int (leV [x0] : Nat)) := by kernel_rfl
theorem ln_tree1 (x0 : UInt8) : runF base "_law_number" [.bytes [x0]] = gate (small (((x0.toNat : Nat) : Int).fmod 128) && true) (bif decide (128 ≤ ((x0.toNat : Nat) : Int)) then some (PV.int (-((0 : Int) + (((x0.toNat : Nat) : Int).fmod 128) * (256 : Int) ^ 0))) else some (.int ((0 : Int) + (((x0.toNat : Nat) : Int).fmod 128) * (256 : Int) ^ 0))) := by kernel_rfl
theorem dn_tree2 (x0 x1 : UInt8) : runF base "decode_num" [.bytes [x0, x1]] = bif decide (128 ≤ ((x1.toNat : Nat) : Int)) then gate (small (Builtin.bitAnd (leV [x0, x1] : Nat) 32767) && true) (some (.int (Builtin.bitAnd (leV [x0, x1] : Nat) 32767 * -1))) else some (.int (leV [x0, x1] : Nat)) := by kernel_rfl
theorem ln_tree2 (x0 x1 : UInt8) : runF base "_law_number" [.bytes [x0, x1]] = gate (small ((x0.toNat : Nat) : Int) && true) (gate (small (((x1.toNat : Nat) : Int).fmod 128) && true) (bif decide (128 ≤ ((x1.toNat : Nat) : Int)) then some (PV.int (-(((0 : Int) + ((x0.toNat : Nat) : Int) * (256 : Int) ^ 0) + (((x1.toNat : Nat) : Int).fmod 128) * (256 : Int) ^ 1))) else some (.int (((0 : Int) + ((x0.toNat : Nat) : Int) * (256 : Int) ^ 0) + (((x1.toNat : Nat) : Int).fmod 128) * (256 : Int) ^ 1)))) := by kernel_rfl
theorem dn_tree3 (x0 x1 x2 : UInt8) : runF base "decode_num" [.bytes [x0, x1, x2]] = bif decide (128 ≤ ((x2.toNat : Nat) : Int)) then gate (small (Builtin.bitAnd (leV [x0, x1, x2] : Nat) 8388607) && true) (some (.int (Builtin.bitAnd (leV [x0, x1, x2] : Nat) 8388607 * -1))) else some (.int (leV [x0, x1, x2] : Nat)) := by kernel_rfl
theorem ln_tree3 (x0 x1 x2 : UInt8) : runF base "_law_number" [.bytes [x0, x1, x2]] = gate (small ((x0.toNat : Nat) : Int) && true) (gate (small ((x1.toNat : Nat) : Int) && true) (gate (small (((x2.toNat : Nat) : Int).fmod 128) && true) (bif decide (128 ≤ ((x2.toNat : Nat) : Int)) then some (PV.int (-((((0 : Int) + ((x0.toNat : Nat) : Int) * (256 : Int) ^ 0) + ((x1.toNat : Nat) : Int) * (256 : Int) ^ 1) + (((x2.toNat : Nat) : Int).fmod 128) * (256 : Int) ^ 2))) else some (.int ((((0 : Int) + ((x0.toNat : Nat) : Int) * (256 : Int) ^ 0) + ((x1.toNat : Nat) : Int) * (256 : Int) ^ 1) + (((x2.toNat : Nat) : Int).fmod 128) * (256 : Int) ^ 2))))) := by kernel_rfl
theorem dn_tree4 (x0 x1 x2 x3 : UInt8) : runF base "decode_num" [.bytes [x0, x1, x2, x3]] = bif decide (128 ≤ ((x3.toNat : Nat) : Int)) then gate (small (Builtin.bitAnd (leV [x0, x1, x2, x3] : Nat) 2147483647) && true) (some (.int (Builtin.bitAnd (leV [x0, x1, x2, x3] : Nat) 2147483647 * -1))) else some (.int (leV [x0, x1, x2, x3] : Nat)) := by kernel_rfl
theorem ln_tree4 (x0 x1 x2 x3 : UInt8) : runF base "_law_number" [.bytes [x0, x1, x2, x3]] = gate (small ((x0.toNat : Nat) : Int) && true) (gate (small ((x1.toNat : Nat) : Int) && true) (gate (small ((x2.toNat : Nat) : Int) && true) (gate (small (((x3.toNat : Nat) : Int).fmod 128) && true) (bif decide (128 ≤ ((x3.toNat : Nat) : Int)) then some (PV.int (-(((((0 : Int) + ((x0.toNat : Nat) : Int) * (256 : Int) ^ 0) + ((x1.toNat : Nat) : Int) * (256 : Int) ^ 1) + ((x2.toNat : Nat) : Int) * (256 : Int) ^ 2) + (((x3.toNat : Nat) : Int).fmod 128) * (256 : Int) ^ 3))) else some (.int (((((0 : Int) + ((x0.toNat : Nat) : Int) * (256 : Int) ^ 0) + ((x1.toNat : Nat) : Int) * (256 : Int) ^ 1) + ((x2.toNat : Nat) : Int) * (256 : Int) ^ 2) + (((x3.toNat : Nat) : Int).fmod 128) * (256 : Int) ^ 3)))))) := by kernel_rfl
theorem dn_tree0 : runF base "decode_num" [.bytes []] = some (.int 0) := by kernel_rfl
theorem ln_tree0 : runF base "_law_number" [.bytes []] = some (.int 0) := by kernel_rfl
end Mine
end

/-! Sp7 -/
section
open PySem
set_option maxRecDepth 100000
namespace Mine

/-- the number that up to four octets are -/
def numP (c : List UInt8) : Int := match c.getLast? with
  | none => 0
  | some z => if 128 ≤ z.toNat then -((leV c % 2 ^ (8 * c.length - 1) : Nat) : Int) else (leV c : Nat)
theorem band_mask (v k : Nat) (m : Int) (hm : m = ((2 ^ k - 1 : Nat) : Int)) : Builtin.bitAnd (v : Int) m = ((v % 2 ^ k : Nat) : Int) := by
  subst hm
  rw [PyProof.Rows.bitAnd_pp (by omega) (by omega), Int.toNat_natCast, Int.toNat_natCast, Nat.and_two_pow_sub_one_eq_mod]
theorem small_mod {v k : Nat} (h : k ≤ 60) : small ((v % 2 ^ k : Nat) : Int) = true := by
  have h1 : v % 2 ^ k < 2 ^ k := Nat.mod_lt _ (Nat.pow_pos (by decide))
  have h2 : 2 ^ k ≤ 2 ^ 60 := Nat.pow_le_pow_right (by decide) h
  exact decide_eq_true (by omega)
theorem fmod128 (x : UInt8) : ((x.toNat : Nat) : Int).fmod 128 = ((x.toNat % 128 : Nat) : Int) := fmodN x.toNat 128
theorem dn_run (c : List UInt8) (h : c.length ≤ 4) : runF base "decode_num" [.bytes c] = some (.int (numP c)) := by
  have key : ∀ (c : List UInt8) (z : UInt8) (m : Int), c.getLast? = some z → c.length ≤ 4 → m = ((2 ^ (8 * c.length - 1) - 1 : Nat) : Int) →
      (bif decide (128 ≤ ((z.toNat : Nat) : Int)) then gate (small (Builtin.bitAnd (leV c : Nat) m) && true) (some (PV.int (Builtin.bitAnd (leV c : Nat) m * -1))) else some (.int (leV c : Nat))) = some (.int (numP c)) := by
    intro c z m hz hc hm
    unfold numP
    rw [hz]
    dsimp only
    by_cases h : 128 ≤ z.toNat
    · rw [condT (by omega), if_pos h, band_mask _ _ m hm, gateT (by rw [small_mod (by omega)]; rfl)]
      congr 2; omega
    · rw [condF (by omega), if_neg h]
  match c, h with
  | [], _ => exact dn_tree0
  | [x0], _ => rw [dn_tree1]; exact key _ x0 127 rfl (by simp) (show (127 : Int) = ((2 ^ (8 * 1 - 1) - 1 : Nat) : Int) by decide)
  | [x0, x1], _ => rw [dn_tree2]; exact key _ x1 32767 rfl (by simp) (show (32767 : Int) = ((2 ^ (8 * 2 - 1) - 1 : Nat) : Int) by decide)
  | [x0, x1, x2], _ => rw [dn_tree3]; exact key _ x2 8388607 rfl (by simp) (show (8388607 : Int) = ((2 ^ (8 * 3 - 1) - 1 : Nat) : Int) by decide)
  | [x0, x1, x2, x3], _ => rw [dn_tree4]; exact key _ x3 2147483647 rfl (by simp) (show (2147483647 : Int) = ((2 ^ (8 * 4 - 1) - 1 : Nat) : Int) by decide)
  | _ :: _ :: _ :: _ :: _ :: _, h => simp at h
theorem ln_run (c : List UInt8) (h : c.length ≤ 4) : runF base "_law_number" [.bytes c] = some (.int (numP c)) := by
  match c, h with
  | [], _ => exact ln_tree0
  | [x0], _ =>
    have l0 := x0.toNat_lt
    rw [ln_tree1, fmod128, gateT (by rw [smallN (by omega)]; rfl)]
    unfold numP
    simp only [List.getLast?_singleton, leV, List.length_cons, List.length_nil]
    by_cases h : 128 ≤ x0.toNat
    · rw [condT (by omega), if_pos h]; congr 2; omega
    · rw [condF (by omega), if_neg h]; congr 2; omega
  | [x0, x1], _ =>
    have l0 := x0.toNat_lt
    have l1 := x1.toNat_lt
    rw [ln_tree2, fmod128, gateT (by rw [smallN (by omega)]; rfl), gateT (by rw [smallN (by omega)]; rfl)]
    unfold numP
    rw [show ([x0, x1] : List UInt8).getLast? = some x1 from rfl]
    simp only [leV, List.length_cons, List.length_nil]
    by_cases h : 128 ≤ x1.toNat
    · rw [condT (by omega), if_pos h]; congr 2; omega
    · rw [condF (by omega), if_neg h]; congr 2; omega
  | [x0, x1, x2], _ =>
    have l0 := x0.toNat_lt
    have l1 := x1.toNat_lt
    have l2 := x2.toNat_lt
    rw [ln_tree3, fmod128, gateT (by rw [smallN (by omega)]; rfl), gateT (by rw [smallN (by omega)]; rfl), gateT (by rw [smallN (by omega)]; rfl)]
    unfold numP
    rw [show ([x0, x1, x2] : List UInt8).getLast? = some x2 from rfl]
    simp only [leV, List.length_cons, List.length_nil]
    by_cases h : 128 ≤ x2.toNat
    · rw [condT (by omega), if_pos h]; congr 2; omega
    · rw [condF (by omega), if_neg h]; congr 2; omega
  | [x0, x1, x2, x3], _ =>
    have l0 := x0.toNat_lt
    have l1 := x1.toNat_lt
    have l2 := x2.toNat_lt
    have l3 := x3.toNat_lt
    rw [ln_tree4, fmod128, gateT (by rw [smallN (by omega)]; rfl), gateT (by rw [smallN (by omega)]; rfl), gateT (by rw [smallN (by omega)]; rfl), gateT (by rw [smallN (by omega)]; rfl)]
    unfold numP
    rw [show ([x0, x1, x2, x3] : List UInt8).getLast? = some x3 from rfl]
    simp only [leV, List.length_cons, List.length_nil]
    by_cases h : 128 ≤ x3.toNat
    · rw [condT (by omega), if_pos h]; congr 2; omega
    · rw [condF (by omega), if_neg h]; congr 2; omega
  | _ :: _ :: _ :: _ :: _ :: _, h => simp at h
end Mine
end

/-! Sp8 -/
section
open PySem
set_option maxRecDepth 100000
namespace Mine

def hiB (x : Int) : Bool := Builtin.bitAnd x 128 != 0
def sgHalf (b : List UInt8) (p q t l : Int) (k : Bool → Option PV) : Option PV :=
  byteAt b p fun x2 => bif decide (x2 = 2) then (bif (!decide (l = 0)) then (byteAt b q fun x4 => bif (!hiB x4) then
      (bif decide (1 < l) then (byteAt b q fun y => bif decide (y = 0) then (byteAt b t fun z => k (!(!hiB z))) else k (!decide (y = 0))) else k (!decide (1 < l)))
    else k (!hiB x4)) else k (!decide (l = 0))) else k (decide (x2 = 2))
def sgT (b : List UInt8) : Option PV :=
  let no := some (PV.bool false)
  lenB b fun n => bif decide (9 ≤ n) then (bif (!decide (n ≤ 73)) then no else
    byteAt b 0 fun x0 => bif (!decide (x0 = 48)) then no else byteAt b 1 fun x1 => lenB b fun n => bif (!decide (x1 = n - 3)) then no else
    byteAt b 3 fun lr => lenB b fun n => bif decide (n ≤ 5 + lr) then no else byteAt b (5 + lr) fun ls => lenB b fun n => bif (!decide (lr + ls + 7 = n)) then no else
    sgHalf b 2 4 5 lr fun r => sgHalf b (lr + 4) (lr + 6) (lr + 7) ls fun s => bif r then some (.bool s) else some (.bool r)) else no
theorem sg_tree (b : List UInt8) : runF base "_is_valid_signature_encoding" [.bytes b] = sgT b := by kernel_rfl

/-! the law's own -/
def liT (b : List UInt8) : Option PV :=
  lenB b fun n => bif decide (0 < n) then (byteAt b 0 fun x => bif decide (x < 128) then
    (lenB b fun n => bif decide (1 < n) then (byteAt b 0 fun y => bif decide (y = 0) then (byteAt b 1 fun z => some (.bool (!decide (z < 128)))) else some (.bool (!decide (y = 0)))) else some (.bool (!decide (1 < n))))
    else some (.bool (decide (x < 128)))) else some (.bool (decide (0 < n)))
theorem li_tree (b : List UInt8) : runF base "_law_integer" [.bytes b] = liT b := by kernel_rfl
def intOk (c : List UInt8) : Bool := decide (0 < c.length) && decide ((c.getD 0 0).toNat < 128) && !(decide (1 < c.length) && decide ((c.getD 0 0).toNat = 0) && decide ((c.getD 1 0).toNat < 128))
theorem byte0 {b : List UInt8} {k : Int → Option PV} (h : 0 < b.length) (hb : b.length ≤ 1000000) : byteAt b 0 k = k ((b.getD 0 0).toNat : Nat) := byteAt_ok (i := 0) h hb
theorem byte1 {b : List UInt8} {k : Int → Option PV} (h : 1 < b.length) (hb : b.length ≤ 1000000) : byteAt b 1 k = k ((b.getD 1 0).toNat : Nat) := byteAt_ok (i := 1) h hb
theorem li_run (b : List UInt8) (hb : b.length ≤ 1000000) : runF base "_law_integer" [.bytes b] = some (.bool (intOk b)) := by
  rw [li_tree]
  unfold liT intOk
  rw [lenB_ok hb]
  by_cases h1 : 0 < b.length
  · rw [condT (by omega), byte0 h1 hb, decide_eq_true h1]
    by_cases h2 : (b.getD 0 0).toNat < 128
    · rw [condT (by omega), lenB_ok hb, decide_eq_true h2]
      by_cases h3 : 1 < b.length
      · rw [condT (by omega), byte0 h1 hb, decide_eq_true h3]
        by_cases h4 : (b.getD 0 0).toNat = 0
        · rw [condT (by omega), byte1 h3 hb, decide_eq_true h4]
          have : decide ((((b.getD 1 0).toNat : Nat) : Int) < 128) = decide ((b.getD 1 0).toNat < 128) := by
            by_cases h5 : (b.getD 1 0).toNat < 128
            · rw [decide_eq_true h5, decide_eq_true (by omega)]
            · rw [decide_eq_false h5, decide_eq_false (by omega)]
          rw [this]; rfl
        · rw [condF (by omega), decide_eq_false h4, decide_eq_false (show ¬ (((b.getD 0 0).toNat : Nat) : Int) = 0 by omega)]; rfl
      · rw [condF (by omega), decide_eq_false h3, decide_eq_false (show ¬ (1 : Int) < ((b.length : Nat) : Int) by omega)]; rfl
    · rw [condF (by omega), decide_eq_false h2, decide_eq_false (show ¬ (((b.getD 0 0).toNat : Nat) : Int) < 128 by omega)]; rfl
  · rw [condF (by omega), decide_eq_false h1, decide_eq_false (show ¬ (0 : Int) < ((b.length : Nat) : Int) by omega)]; rfl
def liF : Fun := fun as ks k => match as, ks with
  | [.bytes b], [] => gate (lenOk b.length) (k (.bool (intOk b)))
  | _, _ => none
def T2 : Tbl := tb [(nm "_law_integer", liF)]
def lsT (b : List UInt8) : Option PV :=
  let no := some (PV.bool false)
  lenB b fun n => bif decide (9 ≤ n) then (bif (!decide (n ≤ 73)) then no else
    byteAt b 0 fun x0 => bif (!decide (x0 = 48)) then no else byteAt b 1 fun x1 => lenB b fun n => bif (!decide (x1 = n - 3)) then no else byteAt b 2 fun x2 => bif (!decide (x2 = 2)) then no else
    byteAt b 3 fun f => lenB b fun n => bif decide (n - 1 < f + 6) then no else byteAt b (4 + f) fun y => bif (!decide (y = 2)) then no else
    byteAt b (5 + f) fun g => lenB b fun n => bif (!decide (6 + f + g = n - 1)) then no else
    cutAt b (.int 4) (.int (4 + f)) fun c => gate (lenOk c.length) (bif intOk c then cutAt b (.int (6 + f)) (.int (6 + f + g)) fun d => gate (lenOk d.length) (some (.bool (intOk d))) else some (.bool (intOk c)))) else no
theorem ls_tree (b : List UInt8) : runF T2 "_law_signed" [.bytes b] = lsT b := by kernel_rfl
end Mine
end

/-! Sp9 -/
section
open PySem
set_option maxRecDepth 100000
namespace Mine

def at_ (b : List UInt8) (i : Nat) : Nat := (b.getD i 0).toNat
theorem at_lt (b : List UInt8) (i : Nat) : at_ b i < 256 := (b.getD i 0).toNat_lt
/-- octets that are a signature's -/
def sigP (b : List UInt8) : Bool :=
  decide (9 ≤ b.length ∧ b.length ≤ 73 ∧ at_ b 0 = 48 ∧ at_ b 1 + 3 = b.length ∧ at_ b 2 = 2 ∧ 7 + at_ b 3 ≤ b.length ∧ at_ b (4 + at_ b 3) = 2 ∧ 7 + at_ b 3 + at_ b (5 + at_ b 3) = b.length) &&
    (intOk (sl b 4 (at_ b 3)) && intOk (sl b (6 + at_ b 3) (at_ b (5 + at_ b 3))))
theorem bAt {b : List UInt8} {i : Nat} {z : Int} {k : Int → Option PV} (hz : z = (i : Int)) (h : i < b.length) (hb : b.length ≤ 1000000) : byteAt b z k = k (at_ b i : Nat) := by
  subst hz; exact byteAt_ok h hb
theorem hi_eq : ∀ x : Fin 256, hiB (x.val : Int) = decide (128 ≤ x.val) := by decide +kernel
theorem hi_nat {x : Nat} (h : x < 256) : hiB (x : Int) = decide (128 ≤ x) := hi_eq ⟨x, h⟩
theorem ncond {p : Prop} [Decidable p] {α : Type} {a b : α} : (bif (!decide p) then a else b) = if p then b else a := by
  by_cases h : p <;> simp [h]
theorem sl_getD {b : List UInt8} {i m j : Nat} (h : i + m ≤ b.length) (hj : j < m) : (sl b i m).getD j 0 = b.getD (i + j) 0 := by
  unfold sl
  rw [List.getD_eq_getElem?_getD, List.getD_eq_getElem?_getD, List.getElem?_drop, List.getElem?_take]
  rw [if_pos (by omega)]
theorem intOk_sl {b : List UInt8} {q l : Nat} (h : q + l ≤ b.length) : intOk (sl b q l) = (decide (0 < l) && decide (at_ b q < 128) && !(decide (1 < l) && decide (at_ b q = 0) && decide (at_ b (q + 1) < 128))) := by
  unfold intOk
  rw [sl_len h]
  by_cases h0 : 0 < l
  · rw [sl_getD h h0]
    by_cases h1 : 1 < l
    · rw [sl_getD h h1]; rfl
    · rw [decide_eq_false h1]; rfl
  · rw [decide_eq_false h0]; rfl
theorem half_ok {b : List UInt8} {p q l : Nat} {P Q T L : Int} {k : Bool → Option PV} (hP : P = (p : Int)) (hQ : Q = (q : Int)) (hT : T = ((q + 1 : Nat) : Int)) (hL : L = (l : Int)) (hb : b.length ≤ 1000000) (hp : p < b.length) (hq : q < b.length) (hl : q + l ≤ b.length) :
    sgHalf b P Q T L k = k (decide (at_ b p = 2) && intOk (sl b q l)) := by
  subst hL
  unfold sgHalf
  rw [bAt hP hp hb, intOk_sl hl]
  by_cases h1 : at_ b p = 2
  · rw [condT (by omega), decide_eq_true h1, ncond]
    by_cases h2 : l = 0
    · rw [if_pos (by omega), decide_eq_true (show ((l : Nat) : Int) = 0 by omega), decide_eq_false (show ¬ 0 < l by omega)]; rfl
    · rw [if_neg (by omega), bAt hQ hq hb, decide_eq_true (show 0 < l by omega), hi_nat (at_lt _ _), ncond]
      by_cases h3 : 128 ≤ at_ b q
      · rw [if_pos h3, decide_eq_true h3, decide_eq_false (show ¬ at_ b q < 128 by omega)]; rfl
      · rw [if_neg h3, decide_eq_true (show at_ b q < 128 by omega)]
        by_cases h4 : 1 < l
        · rw [condT (by omega), bAt hQ hq hb, decide_eq_true h4]
          by_cases h5 : at_ b q = 0
          · rw [condT (by omega), bAt hT (by omega) hb, hi_nat (at_lt _ _), decide_eq_true h5]
            by_cases h6 : at_ b (q + 1) < 128
            · rw [decide_eq_true h6, decide_eq_false (show ¬ 128 ≤ at_ b (q + 1) by omega)]; rfl
            · rw [decide_eq_false h6, decide_eq_true (show 128 ≤ at_ b (q + 1) by omega)]; rfl
          · rw [condF (by omega), decide_eq_false h5, decide_eq_false (show ¬ ((at_ b q : Nat) : Int) = 0 by omega)]; rfl
        · rw [condF (by omega), decide_eq_false h4, decide_eq_false (show ¬ (1 : Int) < (l : Nat) by omega)]; rfl
  · rw [condF (by omega), decide_eq_false h1, decide_eq_false (show ¬ ((at_ b p : Nat) : Int) = 2 by omega)]; rfl
theorem sig_no {b : List UInt8} (h : ¬ (9 ≤ b.length ∧ b.length ≤ 73 ∧ at_ b 0 = 48 ∧ at_ b 1 + 3 = b.length ∧ at_ b 2 = 2 ∧ 7 + at_ b 3 ≤ b.length ∧ at_ b (4 + at_ b 3) = 2 ∧ 7 + at_ b 3 + at_ b (5 + at_ b 3) = b.length)) : some (PV.bool false) = some (.bool (sigP b)) := by
  unfold sigP
  rw [decide_eq_false h]; rfl
theorem sg_run (b : List UInt8) (hb : b.length ≤ 1000000) : runF base "_is_valid_signature_encoding" [.bytes b] = some (.bool (sigP b)) := by
  rw [sg_tree]
  unfold sgT
  dsimp only
  rw [lenB_ok hb]
  by_cases h1 : ¬ 9 ≤ b.length
  · rw [condF (by omega)]; exact sig_no fun h => h1 h.1
  rw [condT (by omega), ncond]
  by_cases h2 : ¬ b.length ≤ 73
  · rw [if_neg (by omega)]; exact sig_no fun h => h2 h.2.1
  rw [if_pos (by omega), bAt (z := 0) (i := 0) rfl (by omega) hb, ncond]
  by_cases h3 : ¬ at_ b 0 = 48
  · rw [if_neg (by omega)]; exact sig_no fun h => h3 h.2.2.1
  rw [if_pos (by omega), bAt (z := 1) (i := 1) rfl (by omega) hb, lenB_ok hb, ncond]
  by_cases h4 : ¬ at_ b 1 + 3 = b.length
  · rw [if_neg (by omega)]; exact sig_no fun h => h4 h.2.2.2.1
  rw [if_pos (by omega), bAt (z := 3) (i := 3) rfl (by omega) hb, lenB_ok hb]
  by_cases h5 : b.length ≤ 5 + at_ b 3
  · rw [condT (by omega)]; exact sig_no fun h => by omega
  rw [condF (by omega), bAt (i := 5 + at_ b 3) (by omega) (by omega) hb, lenB_ok hb, ncond]
  by_cases h6 : ¬ 7 + at_ b 3 + at_ b (5 + at_ b 3) = b.length
  · rw [if_neg (by omega)]; exact sig_no fun h => h6 h.2.2.2.2.2.2.2
  rw [if_pos (by omega), half_ok (P := 2) (Q := 4) (T := 5) (p := 2) (q := 4) (l := at_ b 3) rfl rfl rfl rfl hb (by omega) (by omega) (by omega),
    half_ok (p := 4 + at_ b 3) (q := 6 + at_ b 3) (l := at_ b (5 + at_ b 3)) (by omega) (by omega) (by omega) rfl hb (by omega) (by omega) (by omega)]
  unfold sigP
  by_cases h7 : at_ b 2 = 2
  · by_cases h8 : at_ b (4 + at_ b 3) = 2
    · rw [decide_eq_true h7, decide_eq_true h8, decide_eq_true (show 9 ≤ b.length ∧ b.length ≤ 73 ∧ at_ b 0 = 48 ∧ at_ b 1 + 3 = b.length ∧ at_ b 2 = 2 ∧ 7 + at_ b 3 ≤ b.length ∧ at_ b (4 + at_ b 3) = 2 ∧ 7 + at_ b 3 + at_ b (5 + at_ b 3) = b.length by omega)]
      cases intOk (sl b 4 (at_ b 3)) <;> rfl
    · rw [decide_eq_true h7, decide_eq_false h8]
      rw [decide_eq_false (show ¬ (9 ≤ b.length ∧ b.length ≤ 73 ∧ at_ b 0 = 48 ∧ at_ b 1 + 3 = b.length ∧ at_ b 2 = 2 ∧ 7 + at_ b 3 ≤ b.length ∧ at_ b (4 + at_ b 3) = 2 ∧ 7 + at_ b 3 + at_ b (5 + at_ b 3) = b.length) by omega)]
      cases intOk (sl b 4 (at_ b 3)) <;> rfl
  · rw [decide_eq_false h7, decide_eq_false (show ¬ (9 ≤ b.length ∧ b.length ≤ 73 ∧ at_ b 0 = 48 ∧ at_ b 1 + 3 = b.length ∧ at_ b 2 = 2 ∧ 7 + at_ b 3 ≤ b.length ∧ at_ b (4 + at_ b 3) = 2 ∧ 7 + at_ b 3 + at_ b (5 + at_ b 3) = b.length) by omega)]
    rfl
theorem ls_run (b : List UInt8) (hb : b.length ≤ 1000000) : runF T2 "_law_signed" [.bytes b] = some (.bool (sigP b)) := by
  rw [ls_tree]
  unfold lsT
  dsimp only
  rw [lenB_ok hb]
  by_cases h1 : ¬ 9 ≤ b.length
  · rw [condF (by omega)]; exact sig_no fun h => h1 h.1
  rw [condT (by omega), ncond]
  by_cases h2 : ¬ b.length ≤ 73
  · rw [if_neg (by omega)]; exact sig_no fun h => h2 h.2.1
  rw [if_pos (by omega), bAt (z := 0) (i := 0) rfl (by omega) hb, ncond]
  by_cases h3 : ¬ at_ b 0 = 48
  · rw [if_neg (by omega)]; exact sig_no fun h => h3 h.2.2.1
  rw [if_pos (by omega), bAt (z := 1) (i := 1) rfl (by omega) hb, lenB_ok hb, ncond]
  by_cases h4 : ¬ at_ b 1 + 3 = b.length
  · rw [if_neg (by omega)]; exact sig_no fun h => h4 h.2.2.2.1
  rw [if_pos (by omega), bAt (z := 2) (i := 2) rfl (by omega) hb, ncond]
  by_cases h7 : ¬ at_ b 2 = 2
  · rw [if_neg (by omega)]; exact sig_no fun h => h7 h.2.2.2.2.1
  rw [if_pos (by omega), bAt (z := 3) (i := 3) rfl (by omega) hb, lenB_ok hb]
  by_cases h5 : ¬ 7 + at_ b 3 ≤ b.length
  · rw [condT (by omega)]; exact sig_no fun h => h5 h.2.2.2.2.2.1
  rw [condF (by omega), bAt (i := 4 + at_ b 3) (by omega) (by omega) hb, ncond]
  by_cases h8 : ¬ at_ b (4 + at_ b 3) = 2
  · rw [if_neg (by omega)]; exact sig_no fun h => h8 h.2.2.2.2.2.2.1
  rw [if_pos (by omega), bAt (i := 5 + at_ b 3) (by omega) (by omega) hb, lenB_ok hb, ncond]
  by_cases h6 : ¬ 7 + at_ b 3 + at_ b (5 + at_ b 3) = b.length
  · rw [if_neg (by omega)]; exact sig_no fun h => h6 h.2.2.2.2.2.2.2
  rw [if_pos (by omega)]
  unfold sigP
  rw [decide_eq_true (show 9 ≤ b.length ∧ b.length ≤ 73 ∧ at_ b 0 = 48 ∧ at_ b 1 + 3 = b.length ∧ at_ b 2 = 2 ∧ 7 + at_ b 3 ≤ b.length ∧ at_ b (4 + at_ b 3) = 2 ∧ 7 + at_ b 3 + at_ b (5 + at_ b 3) = b.length by omega)]
  have z := at_lt b 3
  have z2 := at_lt b (5 + at_ b 3)
  rw [show (4 : Int) = ((4 : Nat) : Int) from rfl, show ((4 : Nat) : Int) + (at_ b 3 : Nat) = ((4 + at_ b 3 : Nat) : Int) by omega, cutAt_ok hb (by omega) (by omega)]
  rw [show ((b.take (4 + at_ b 3)).drop 4) = sl b 4 (at_ b 3) from rfl, gateT (lenT (by rw [sl_len (by omega)]; omega))]
  cases h9 : intOk (sl b 4 (at_ b 3)) with
  | false => rfl
  | true =>
    simp only [cond_true, Bool.true_and]
    rw [show (6 : Int) + (at_ b 3 : Nat) = ((6 + at_ b 3 : Nat) : Int) by omega, show ((6 + at_ b 3 : Nat) : Int) + (at_ b (5 + at_ b 3) : Nat) = ((6 + at_ b 3 + at_ b (5 + at_ b 3) : Nat) : Int) by omega, cutAt_ok hb (by omega) (by omega)]
    rw [show ((b.take (6 + at_ b 3 + at_ b (5 + at_ b 3))).drop (6 + at_ b 3)) = sl b (6 + at_ b 3) (at_ b (5 + at_ b 3)) from rfl, gateT (lenT (by rw [sl_len (by omega)]; omega))]
end Mine
end

/-! Sp10 -/
section
open PySem
set_option maxRecDepth 100000
namespace Mine

def okBI (b : List UInt8) (i : Int) : Bool := decide (0 ≤ i) && decide (i ≤ 100000) && decide (b.length ≤ 100000)
def rdF : Fun := fun as ks k => match as, ks with
  | [.bytes b, .int i], [] => gate (okBI b i) (match rdP b i.toNat with
    | none => k .none
    | some (w, e) => k (.tup [.int (w : Nat), .int (e : Nat)]))
  | _, _ => none
def psP (b : List UInt8) (i : Nat) : Nat := if at_ b i < 76 then at_ b i else leV (sl b (i + 1) (2 ^ (at_ b i - 76)))
def psF : Fun := fun as ks k => match as, ks with
  | [.bytes b, .int i], [] => gate (okBI b i && decide (i.toNat < b.length) && decide (at_ b i.toNat ≤ 78)) (k (.int (psP b i.toNat : Nat)))
  | _, _ => none
def coP (i : Nat) : Str := if i = 79 then Str.ofString "-1" else if 81 ≤ i ∧ i ≤ 96 then Str.ofString (toString ((i : Int) - 80)) else if i = 255 then Str.ofString "OP_INVALIDOPCODE" else lookI opName i (Str.ofString "OP_UNKNOWN")
def coF : Fun := fun as ks k => match as, ks with
  | [.int i], [] => gate (decide (0 ≤ i) && decide (i < 256)) (k (.str (coP i.toNat)))
  | _, _ => none
def dnF : Fun := fun as ks k => match as, ks with
  | [.bytes c], [] => gate (decide (c.length ≤ 4)) (k (.int (numP c)))
  | _, _ => none
def sgF : Fun := fun as ks k => match as, ks with
  | [.bytes c], [] => gate (lenOk c.length) (k (.bool (sigP c)))
  | _, _ => none
def atF : Fun := fun as ks k => match as, ks with
  | [.bool _, .raw (.type T), .str _], [] => gate (decide (T = "bool")) (k .none)
  | _, _ => none
theorem at_run (v : Bool) (x : Str) : runF base "assert_type" [.bool v, .raw (.type "bool"), .str x] = some .none := by kernel_rfl
def T3 : Tbl := tb [(nm "assert_type", atF), (nm "read_op_code", rdF), (nm "_core_op_code_name", coF), (nm "_push_size", psF), (nm "decode_num", dnF), (nm "_is_valid_signature_encoding", sgF)]

/-- the shapes of the loop's names -/
def asR : Option (PV × PV × PV × Option (PV × Option PV)) → Vars
  | none => []
  | some (a, b, c, d) => (nm "span", .val a) :: (nm "op_code", .val b) :: (nm "stop", .val c) :: (match d with
    | none => []
    | some (q, e) => (nm "data", .val q) :: (match e with
      | none => []
      | some z => [(nm "name", .val z)]))
def asA (b : List UInt8) (at_ : PV) (dec : Bool) (out : List PV) (i : Int) (o : Option (PV × PV × PV × Option (PV × Option PV))) : Vars :=
  (nm "script", .val (.bytes b)) :: (nm "attempt_sighash_decode", .val at_) :: (nm "decode", .val (.bool dec)) :: (nm "out", .own out) :: (nm "start", .val (.int i)) :: asR o
def asKf : KS := fun f σ => match f with
  | .next => exList (exN T3 (scOf "script_to_asm") 16 4000 8) ((bodyOf "script_to_asm").drop 5) σ fun f _ => match f with
    | .ret p => some p
    | .next => some .none
    | _ => none
  | .ret p => some p
  | _ => none
def asD (o : Option (PV × PV × PV × Option (PV × Option PV))) : Option (PV × Option PV) := match o with
  | none => none
  | some (_, _, _, d) => d
def asN (o : Option (PV × PV × PV × Option (PV × Option PV))) : Option PV := match asD o with
  | none => none
  | some (_, e) => e
def joinT (x : Str) (l : List PV) : Option PV := match toSs l with
  | some bs => gate (JoinOk x bs) (some (.str (PySem.Txt.join x bs)))
  | none => none
theorem as_end (b : List UInt8) (a : PV) (dec : Bool) (out : List PV) (i : Int) (o : Option (PV × PV × PV × Option (PV × Option PV))) : asKf .next (asA b a dec out i o) = joinT (Str.ofString " ") out := by kernel_rfl
def runK (T : Tbl) (n : String) (σ : List (Str × PV)) : Option PV := run T (scOf n) (bodyOf n) (valsOf σ)
def decT (b : List UInt8) (v : Bool) (k : Bool → Option PV) : Option PV :=
  bif v then (match optI .none, optI (.int 1) with
    | some a, some c => gate (lenOk b.length) (bif (!decide (cutL b a c = [106])) then lenB b fun n => k (decide (n ≤ 10000)) else k (!decide (cutL b a c = [106])))
    | _, _ => none) else k v
theorem run_split (T : Tbl) (n : String) (i : Nat) (σ : Vars) : run T (scOf n) (bodyOf n) σ = exList (exN T (scOf n) 16 4000 8) ((bodyOf n).take i) σ fun f σ' => match f with
    | .next => exList (exN T (scOf n) 16 4000 8) ((bodyOf n).drop i) σ' kEnd
    | .brk => kEnd .brk σ'
    | .cnt => kEnd .cnt σ'
    | .ret p => kEnd (.ret p) σ' := by
  show exList _ (bodyOf n) σ kEnd = _
  conv => lhs; rw [← List.take_append_drop i (bodyOf n)]
  exact exList_append _ _ _ _
theorem as_pre (b : List UInt8) (v : Bool) (k : KS) : exList (exN T3 (scOf "script_to_asm") 16 4000 8) ((bodyOf "script_to_asm").take 4) (valsOf [(nm "script", .bytes b), (nm "attempt_sighash_decode", .bool v)]) k =
    decT b v fun d => k .next (asA b (.bool v) d [] 0 none) := by cases v <;> kernel_rfl
theorem as_pos : ∃ p, (bodyOf "script_to_asm").drop 4 = .While (whT "script_to_asm") (whB "script_to_asm") [] p :: (bodyOf "script_to_asm").drop 5 := ⟨_, by with_unfolding_all rfl⟩
theorem as_loop (σ : Vars) : exList (exN T3 (scOf "script_to_asm") 16 4000 8) ((bodyOf "script_to_asm").drop 4) σ kEnd = loopK T3 "script_to_asm" 4000 σ asKf := by
  obtain ⟨p, e⟩ := as_pos
  exact loop_at σ e fun f σ => by cases f <;> rfl
theorem as_start (b : List UInt8) (v : Bool) : runK T3 "script_to_asm" [(nm "script", .bytes b), (nm "attempt_sighash_decode", .bool v)] = decT b v fun d => loopK T3 "script_to_asm" 4000 (asA b (.bool v) d [] 0 none) asKf := by
  unfold runK
  rw [run_split T3 "script_to_asm" 4, as_pre]
  exact congrArg (decT b v) (funext fun d => as_loop _)
end Mine
end

/-! Sp11 -/
section
open PySem
set_option maxRecDepth 100000
namespace Mine

abbrev AsO := Option (PV × PV × PV × Option (PV × Option PV))
def fstr4 (a x : Str) (k : Str → Option PV) : Option PV :=
  gate (lenOk a.length) (gate (lenOk (Str.empty.length + a.length)) (gate (lenOk ((Str.empty ++ a).length + (nm "[").length)) (gate (lenOk x.length) (gate (lenOk (((Str.empty ++ a) ++ nm "[").length + x.length))
    (gate (lenOk ((((Str.empty ++ a) ++ nm "[") ++ x).length + (nm "]").length)) (k ((((Str.empty ++ a) ++ nm "[") ++ x) ++ nm "]")))))))
def hexT (b : List UInt8) (k : Str → Option PV) : Option PV := gate (lenOk b.length) (k (hexS b))
theorem as_step (m : Nat) (b : List UInt8) (a : PV) (dec : Bool) (out : List PV) (i : Int) (o : AsO) : loopK T3 "script_to_asm" (m + 1) (asA b a dec out i o) asKf =
    lenB b fun n => bif decide (i < n) then gate (okBI b i) (match rdP b i.toNat with
      | none => gate (lenOk out.length) (joinT (nm " ") (out ++ [.str (nm "[error]")]))
      | some (w, e) =>
        let sp := PV.tup [.int (w : Nat), .int (e : Nat)]
        let go := fun (txt : Str) (d : Option (PV × Option PV)) => gate (lenOk out.length) (loopK T3 "script_to_asm" m (asA b a dec (out ++ [.str txt]) (e : Nat) (some (sp, .int (w : Nat), .int (e : Nat), d))) asKf)
        bif decide (78 < ((w : Nat) : Int)) then gate (decide (0 ≤ ((w : Nat) : Int)) && decide (((w : Nat) : Int) < 256)) (go (coP (Int.toNat ((w : Nat) : Int))) (asD o))
        else gate (okBI b i && decide (i.toNat < b.length) && decide (at_ b i.toNat ≤ 78)) (cutAt b (.int ((e : Nat) - (psP b i.toNat : Nat))) (.int (e : Nat)) fun data =>
          lenB data fun n => bif decide (n ≤ 4) then gate (decide (data.length ≤ 4)) (gate (small (numP data)) (go (Str.ofString (toString (numP data))) (some (.bytes data, asN o))))
          else
            let plain := fun (z : Option PV) => hexT data fun x => go x (some (.bytes data, z))
            bif dec then gate (lenOk data.length) (bif sigP data then byteAt data (-1) fun z => (match sigName.lookup z with
                | some y => cutAt data .none (.int (-1)) fun d2 => hexT d2 fun x => fstr4 x y fun t => go t (some (.bytes data, some (.str y)))
                | none => plain (some .none)) else plain (asN o))
            else plain (asN o))) else joinT (nm " ") out := by
  rcases o with _ | ⟨p1, p2, p3, _ | ⟨q, _ | z⟩⟩ <;> kernel_rfl
end Mine
end

/-! Sp12 -/
section
open PySem
set_option maxRecDepth 100000
namespace Mine

def laF : Fun := fun as ks k => match as, ks with
  | [.bytes b], [] => gate (decide (b.length < 4000)) (k (.tup [.lst ((allP b).1.map itemP), .int ((allP b).2.1 : Nat), .bool (allP b).2.2]))
  | _, _ => none
def lsF : Fun := sgF
def lkF : Fun := fun as ks k => match as, ks with
  | [], [] => k (.dci sigName)
  | _, _ => none
def T4 : Tbl := tb [(nm "_law_all", laF), (nm "_law_number", dnF), (nm "_law_kinds", lkF), (nm "_law_signed", lsF)]
def forIn' : List Stmt → Option (Expr × List Stmt)
  | [] => none
  | .For t _ b _ _ :: _ => some (t, b)
  | _ :: r => forIn' r
def frT (n : String) : Expr := match forIn' (bodyOf n) with | some x => x.1 | none => default
def frB (n : String) : List Stmt := match forIn' (bodyOf n) with | some x => x.2 | none => []
def forF (T : Tbl) (n : String) (xs : List PV) (σ : Vars) (k : KS) : Option PV := forK (bindT (scOf n) (frT n)) (exList (exN T (scOf n) 16 4000 7) (frB n)) xs σ k

abbrev SaO := Option (PV × PV × PV × PV × Option PV)
def saR : SaO → Vars
  | none => []
  | some (a, b, c, d, e) => (nm "word", .val a) :: (nm "octets", .val b) :: (nm "begin", .val c) :: (nm "behind", .val d) :: (match e with
    | none => []
    | some z => [(nm "kind", .val z)])
def saK : SaO → Option PV
  | none => none
  | some (_, _, _, _, e) => e
structure SaC where
  b : List UInt8
  dec : PV
  fl : PV
  at_ : PV
  br : Bool
  ask : Bool
def saA (c : SaC) (said : List PV) (o : SaO) : Vars :=
  (nm "code", .val (.bytes c.b)) :: (nm "decoded", .val c.dec) :: (nm "found", .val c.fl) :: (nm "at", .val c.at_) :: (nm "broken", .val (.bool c.br)) :: (nm "asked", .val (.bool c.ask)) :: (nm "said", .own said) :: saR o
def saKf : KS := fun f σ => match f with
  | .next => exList (exN T4 (scOf "_law_said") 16 4000 8) ((bodyOf "_law_said").drop 4) σ kEnd
  | .ret p => some p
  | _ => none
theorem sa_end (c : SaC) (said : List PV) (o : SaO) : saKf .next (saA c said o) = bif c.br then gate (lenOk (said.length + 1)) (joinT (nm " ") (said ++ [.str (nm "[error]")])) else gate (lenOk (said.length + 0)) (joinT (nm " ") (said ++ [])) := by
  obtain ⟨b, dec, fl, at_, br, ask⟩ := c
  cases br <;> kernel_rfl
theorem sa_pre (b : List UInt8) (v : Bool) (k : KS) : exList (exN T4 (scOf "_law_said") 16 4000 8) ((bodyOf "_law_said").take 3) (valsOf [(nm "code", .bytes b), (nm "decoded", .bool v)]) k =
    gate (decide (b.length < 4000)) (decT b v fun d => k .next (saA ⟨b, .bool v, .lst ((allP b).1.map itemP), .int ((allP b).2.1 : Nat), (allP b).2.2, d⟩ [] none)) := by cases v <;> kernel_rfl
theorem sa_for (b : List UInt8) (dec : PV) (l : List PV) (at_ : PV) (br ask : Bool) (said : List PV) (k : KS) : exN T4 (scOf "_law_said") 16 4000 8 ((bodyOf "_law_said").getD 3 default) (saA ⟨b, dec, .lst l, at_, br, ask⟩ said none) k = gate (lenOk l.length) (forF T4 "_law_said" l (saA ⟨b, dec, .lst l, at_, br, ask⟩ said none) k) := by kernel_rfl
theorem sa_kf (f : Fl) (σ : Vars) : (match f with
    | .next => exList (exN T4 (scOf "_law_said") 16 4000 8) ((bodyOf "_law_said").drop 4) σ kEnd
    | .brk => kEnd .brk σ
    | .cnt => kEnd .cnt σ
    | .ret p => kEnd (.ret p) σ) = saKf f σ := by cases f <;> rfl
theorem sa_split (σ : Vars) : exList (exN T4 (scOf "_law_said") 16 4000 8) ((bodyOf "_law_said").drop 3) σ kEnd = exN T4 (scOf "_law_said") 16 4000 8 ((bodyOf "_law_said").getD 3 default) σ fun f σ' => match f with
    | .next => exList (exN T4 (scOf "_law_said") 16 4000 8) ((bodyOf "_law_said").drop 4) σ' kEnd
    | .brk => kEnd .brk σ'
    | .cnt => kEnd .cnt σ'
    | .ret p => kEnd (.ret p) σ' := by kernel_rfl
theorem sa_loop (b : List UInt8) (dec : PV) (l : List PV) (at_ : PV) (br ask : Bool) (said : List PV) : exList (exN T4 (scOf "_law_said") 16 4000 8) ((bodyOf "_law_said").drop 3) (saA ⟨b, dec, .lst l, at_, br, ask⟩ said none) kEnd =
    gate (lenOk l.length) (forF T4 "_law_said" l (saA ⟨b, dec, .lst l, at_, br, ask⟩ said none) saKf) := by
  rw [sa_split, sa_for]
  congr 2
  funext f σ
  exact sa_kf f σ
theorem sa_nil (c : SaC) (said : List PV) (o : SaO) : forF T4 "_law_said" [] (saA c said o) saKf = saKf .next (saA c said o) := rfl
def catT (a x : Str) (k : Str → Option PV) : Option PV := gate (lenOk (a.length + (nm "[").length)) (gate (lenOk ((a ++ nm "[").length + x.length)) (gate (lenOk (((a ++ nm "[") ++ x).length + (nm "]").length)) (k (((a ++ nm "[") ++ x) ++ nm "]"))))
def numT (c : List UInt8) (k : Str → Option PV) : Option PV := gate (decide (c.length ≤ 4)) (gate (small (numP c)) (k (Str.ofString (toString (numP c)))))
theorem sa_none (c : SaC) (said l : List PV) (o : SaO) (w i e : Nat) : forF T4 "_law_said" (itemP (w, none, i, e) :: l) (saA c said o) saKf =
    (let go := fun (txt : Str) => gate (lenOk said.length) (forF T4 "_law_said" l (saA c (said ++ [.str txt]) (some (.int (w : Nat), .none, .int (i : Nat), .int (e : Nat), saK o))) saKf)
     let tail := bif decide (((w : Nat) : Int) = 255) then go (nm "OP_INVALIDOPCODE") else bif (opName.lookup ((w : Nat) : Int)).isSome then (match opName.lookup ((w : Nat) : Int) with | some x => go x | none => none) else go (nm "OP_UNKNOWN")
     let low := gate (small (((w : Nat) : Int) - 80)) (go (Str.ofString (toString (((w : Nat) : Int) - 80))))
     bif decide (((w : Nat) : Int) = 0) then numT [] go else
     bif decide (((w : Nat) : Int) = 79) then low else bif decide (81 ≤ ((w : Nat) : Int)) then (bif decide (((w : Nat) : Int) ≤ 96) then low else tail) else tail) := by
  rcases o with _ | ⟨p1, p2, p3, p4, _ | z⟩ <;> kernel_rfl
theorem sa_some (c : SaC) (said l : List PV) (o : SaO) (w i e : Nat) (x : List UInt8) : forF T4 "_law_said" (itemP (w, some x, i, e) :: l) (saA c said o) saKf =
    (let go := fun (kd : Option PV) (txt : Str) => gate (lenOk said.length) (forF T4 "_law_said" l (saA c (said ++ [.str txt]) (some (.int (w : Nat), .bytes x, .int (i : Nat), .int (e : Nat), kd))) saKf)
     let num := gate (lenOk x.length) (bif (!x.isEmpty) then numT x (go (saK o)) else numT [] (go (saK o)))
     let plain := hexT x (go (some .none))
     bif decide (((w : Nat) : Int) = 0) then num else lenB x fun n => bif decide (n ≤ 4) then num else
     bif c.ask then gate (lenOk x.length) (bif sigP x then byteAt x (-1) fun z => (match sigName.lookup z with
        | some y => cutAt x .none (.int (-1)) fun d2 => hexT d2 fun h => catT h y (go (some (.str y)))
        | none => plain) else plain) else plain) := by
  obtain ⟨b, dec, fl, at_, br, ask⟩ := c
  rcases o with _ | ⟨p1, p2, p3, p4, _ | z⟩ <;> cases ask <;> kernel_rfl
end Mine
end

/-! Sp13 -/
section
open PySem
set_option maxRecDepth 100000
namespace Mine

def numS (c : List UInt8) : Str := Str.ofString (toString (numP c))
/-- what people are told of one word -/
def saidT (ask : Bool) (w : Nat) : Option (List UInt8) → Str
  | none => if w = 0 then numS [] else if w = 79 ∨ (81 ≤ w ∧ w ≤ 96) then Str.ofString (toString ((w : Int) - 80)) else if w = 255 then nm "OP_INVALIDOPCODE" else lookI opName w (nm "OP_UNKNOWN")
  | some x => if x.length ≤ 4 then numS x else if ask && sigP x then (match sigName.lookup ((at_ x (x.length - 1) : Nat) : Int) with
    | some y => ((hexS (x.take (x.length - 1)) ++ nm "[") ++ y) ++ nm "]"
    | none => hexS x) else hexS x
def itemOk : Item → Prop
  | (w, none, _, _) => w < 256 ∧ (w = 0 ∨ 78 < w)
  | (w, some x, _, _) => w < 256 ∧ 0 < w ∧ w ≤ 78 ∧ x.length ≤ 100000
def endT (br : Bool) (said : List PV) : Option PV := bif br then gate (lenOk (said.length + 1)) (joinT (nm " ") (said ++ [.str (nm "[error]")])) else gate (lenOk (said.length + 0)) (joinT (nm " ") (said ++ []))
theorem numP_small {c : List UInt8} (h : c.length ≤ 4) : small (numP c) = true := by
  have h1 := leV_lt c
  have h2 : 256 ^ c.length ≤ 256 ^ 4 := Nat.pow_le_pow_right (by decide) h
  have h3 : leV c % 2 ^ (8 * c.length - 1) ≤ leV c := Nat.mod_le _ _
  unfold numP
  refine decide_eq_true ?_
  split
  · decide
  · split <;> omega
theorem numT_ok {c : List UInt8} {k : Str → Option PV} (h : c.length ≤ 4) : numT c k = k (numS c) := by
  unfold numT
  rw [gateT (decide_eq_true h), gateT (numP_small h)]; rfl
theorem hexT_ok {c : List UInt8} {k : Str → Option PV} (h : c.length ≤ 1000000) : hexT c k = k (hexS c) := gateT (lenT h)
theorem hexS_len (c : List UInt8) : (hexS c).length = 2 * c.length := by
  show (hexL c).toArray.size = _
  simp [hexL_len]
theorem last_ok {x : List UInt8} {k : Int → Option PV} (h : 0 < x.length) (hb : x.length ≤ 1000000) : byteAt x (-1) k = k (at_ x (x.length - 1) : Nat) := by
  unfold byteAt
  rw [condF (by decide), gateT (by rw [decide_eq_true (by omega), lenT hb]; rfl)]
  rw [show (-1 + (x.length : Int)).toNat = x.length - 1 by omega]; rfl
theorem cutLast_ok {x : List UInt8} {k : List UInt8 → Option PV} (hb : x.length ≤ 1000000) : cutAt x .none (.int (-1)) k = k (x.take (x.length - 1)) := by
  unfold cutAt
  rw [show optI .none = some none from rfl, show optI (.int (-1)) = some (some (-1)) from rfl]
  dsimp only
  rw [gateT (lenT hb)]
  congr 1
  unfold cutL
  simp only [Option.elim_none, Option.elim_some, List.drop_zero, Nat.sub_zero]
  congr 1
  unfold clipAt
  split <;> omega
theorem sig_len : ∀ i : Int, ∀ y, sigName.lookup i = some y → y.length ≤ 100 := by
  have h : (sigName.all fun p => decide (p.2.length ≤ 100)) = true := by kernel_rfl
  intro i y e
  have := List.all_eq_true.mp h (i, y) (by
    have gen : ∀ (l : List (Int × Str)), l.lookup i = some y → (i, y) ∈ l := by
      intro l
      induction l with
      | nil => intro e; cases e
      | cons p l ih =>
        intro e
        obtain ⟨j, z⟩ := p
        rw [List.lookup_cons] at e
        cases q : i == j with
        | true => rw [q] at e; cases e; rw [eq_of_beq q]; exact .head _
        | false => rw [q] at e; exact .tail _ (ih e)
    exact gen _ e)
  exact of_decide_eq_true this
theorem lenApp (a b : Str) : (a ++ b).length = a.length + b.length := Str.length_append a b
theorem len1 : (nm "[").length = 1 := by kernel_rfl
theorem len2 : (nm "]").length = 1 := by kernel_rfl
theorem catT_ok {a x : Str} {k : Str → Option PV} (ha : a.length ≤ 400000) (hx : x.length ≤ 1000) : catT a x k = k (((a ++ nm "[") ++ x) ++ nm "]") := by
  unfold catT
  rw [gateT (lenT (by rw [len1]; omega)), gateT (lenT (by rw [lenApp, len1]; omega)), gateT (lenT (by rw [lenApp, lenApp, len1, len2]; omega))]
theorem said_short {ask : Bool} {w : Nat} {x : List UInt8} (h : x.length ≤ 4) : saidT ask w (some x) = numS x := by
  show (if x.length ≤ 4 then _ else _) = _
  rw [if_pos h]
theorem said_loop (c : SaC) : ∀ (items : List Item) (said : List PV) (o : SaO), (∀ x ∈ items, itemOk x) → said.length + items.length ≤ 1000000 →
    forF T4 "_law_said" (items.map itemP) (saA c said o) saKf = endT c.br (said ++ items.map fun x => .str (saidT c.ask x.1 x.2.1))
  | [], said, o, _, _ => by
    show saKf .next (saA c said o) = _
    rw [sa_end]
    simp only [List.map_nil, List.append_nil]
    unfold endT
    rw [List.append_nil]
  | (w, none, i, e) :: items, said, o, hk, hl => by
    obtain ⟨h1, h2⟩ : w < 256 ∧ (w = 0 ∨ 78 < w) := hk _ (.head _)
    have hl' : said.length + (items.length + 1) ≤ 1000000 := hl
    have ih := fun (txt : Str) (o : SaO) => said_loop c items (said ++ [.str txt]) o (fun x hx => hk x (.tail _ hx)) (by simp; omega)
    have fin : ∀ (txt : Str) (o : SaO), txt = saidT c.ask w none → gate (lenOk said.length) (forF T4 "_law_said" (items.map itemP) (saA c (said ++ [.str txt]) o) saKf) = endT c.br (said ++ ((w, none, i, e) :: items).map fun x => .str (saidT c.ask x.1 x.2.1)) := by
      intro txt o ht
      rw [gateT (lenT (by omega)), ih]
      subst ht
      simp
    rw [List.map_cons, sa_none]
    dsimp only
    by_cases a1 : w = 0
    · rw [condT (by omega), numT_ok (by simp)]
      exact fin _ _ (by unfold saidT; rw [if_pos a1])
    rw [condF (by omega)]
    by_cases a2 : w = 79
    · rw [condT (by omega), gateT (show small (((w : Nat) : Int) - 80) = true from decide_eq_true (by omega))]
      exact fin _ _ (by unfold saidT; rw [if_neg a1, if_pos (.inl a2)])
    rw [condF (by omega)]
    have tl : ¬ (81 ≤ w ∧ w ≤ 96) → (bif decide (((w : Nat) : Int) = 255) then gate (lenOk said.length) (forF T4 "_law_said" (items.map itemP) (saA c (said ++ [.str (nm "OP_INVALIDOPCODE")]) (some (.int (w : Nat), .none, .int (i : Nat), .int (e : Nat), saK o))) saKf)
        else bif (opName.lookup ((w : Nat) : Int)).isSome then (match opName.lookup ((w : Nat) : Int) with | some x => gate (lenOk said.length) (forF T4 "_law_said" (items.map itemP) (saA c (said ++ [.str x]) (some (.int (w : Nat), .none, .int (i : Nat), .int (e : Nat), saK o))) saKf) | none => none)
          else gate (lenOk said.length) (forF T4 "_law_said" (items.map itemP) (saA c (said ++ [.str (nm "OP_UNKNOWN")]) (some (.int (w : Nat), .none, .int (i : Nat), .int (e : Nat), saK o))) saKf)) = endT c.br (said ++ ((w, none, i, e) :: items).map fun x => .str (saidT c.ask x.1 x.2.1)) := by
      intro a3
      by_cases a4 : w = 255
      · rw [condT (by omega)]
        exact fin _ _ (by unfold saidT; rw [if_neg a1, if_neg (by omega), if_pos a4])
      rw [condF (by omega)]
      cases hx : opName.lookup ((w : Nat) : Int) with
      | some x => exact fin _ _ (by unfold saidT lookI; rw [if_neg a1, if_neg (by omega), if_neg a4, hx])
      | none => exact fin _ _ (by unfold saidT lookI; rw [if_neg a1, if_neg (by omega), if_neg a4, hx])
    by_cases a5 : 81 ≤ w
    · rw [condT (by omega)]
      by_cases a6 : w ≤ 96
      · rw [condT (by omega), gateT (show small (((w : Nat) : Int) - 80) = true from decide_eq_true (by omega))]
        exact fin _ _ (by unfold saidT; rw [if_neg a1, if_pos (.inr ⟨a5, a6⟩)])
      · rw [condF (by omega)]; exact tl (by omega)
    · rw [condF (by omega)]; exact tl (by omega)
  | (w, some x, i, e) :: items, said, o, hk, hl => by
    obtain ⟨h1, h2, h3, h4⟩ : w < 256 ∧ 0 < w ∧ w ≤ 78 ∧ x.length ≤ 100000 := hk _ (.head _)
    have hl' : said.length + (items.length + 1) ≤ 1000000 := hl
    have ih := fun (txt : Str) (o : SaO) => said_loop c items (said ++ [.str txt]) o (fun x hx => hk x (.tail _ hx)) (by simp; omega)
    have fin : ∀ (txt : Str) (o : SaO), txt = saidT c.ask w (some x) → gate (lenOk said.length) (forF T4 "_law_said" (items.map itemP) (saA c (said ++ [.str txt]) o) saKf) = endT c.br (said ++ ((w, some x, i, e) :: items).map fun x => .str (saidT c.ask x.1 x.2.1)) := by
      intro txt o ht
      rw [gateT (lenT (by omega)), ih]
      subst ht
      simp
    rw [List.map_cons, sa_some]
    dsimp only
    rw [condF (by omega), lenB_ok (by omega)]
    by_cases a1 : x.length ≤ 4
    · rw [condT (by omega), gateT (lenT (by omega))]
      cases x with
      | nil =>
        simp only [List.isEmpty_nil, Bool.not_true, cond_false]
        rw [numT_ok (c := []) (Nat.zero_le _)]
        exact fin _ _ (said_short a1).symm
      | cons y ys =>
        simp only [List.isEmpty_cons, Bool.not_false, cond_true]
        rw [numT_ok (c := y :: ys) a1]
        exact fin _ _ (said_short a1).symm
    rw [condF (by omega)]
    have plain : (¬ (c.ask && sigP x) = true ∨ sigName.lookup ((at_ x (x.length - 1) : Nat) : Int) = none) → hexT x (fun txt => gate (lenOk said.length) (forF T4 "_law_said" (items.map itemP) (saA c (said ++ [.str txt]) (some (.int (w : Nat), .bytes x, .int (i : Nat), .int (e : Nat), some .none))) saKf)) = endT c.br (said ++ ((w, some x, i, e) :: items).map fun x => .str (saidT c.ask x.1 x.2.1)) := by
      intro hc
      rw [hexT_ok (by omega)]
      refine fin _ _ ?_
      show _ = (if x.length ≤ 4 then _ else _)
      rw [if_neg a1]
      rcases hc with hc | hc
      · rw [if_neg hc]
      · by_cases hq : (c.ask && sigP x) = true
        · rw [if_pos hq, hc]
        · rw [if_neg hq]
    have cT : ∀ (z : Bool) (a b : Option PV), z = true → (bif z then a else b) = a := by intro z a b h; rw [h]; rfl
    have cF : ∀ (z : Bool) (a b : Option PV), z = false → (bif z then a else b) = b := by intro z a b h; rw [h]; rfl
    by_cases hask : c.ask = false
    · rw [cF _ _ _ hask]
      exact plain (.inl (by rw [hask]; simp))
    have hask : c.ask = true := by simpa using hask
    rw [cT _ _ _ hask, gateT (lenT (by omega))]
    by_cases hs : sigP x = false
    · rw [cF _ _ _ hs]
      exact plain (.inl (by rw [hs]; simp))
    have hs : sigP x = true := by simpa using hs
    rw [cT _ _ _ hs, last_ok (by omega) (by omega)]
    cases hy : sigName.lookup ((at_ x (x.length - 1) : Nat) : Int) with
    | none => exact plain (.inr hy)
    | some y =>
      dsimp only
      rw [cutLast_ok (by omega), hexT_ok (by simp; omega), catT_ok (by rw [hexS_len]; simp; omega) (Nat.le_trans (sig_len _ _ hy) (by decide))]
      refine fin _ _ ?_
      show _ = (if x.length ≤ 4 then _ else _)
      rw [if_neg a1, if_pos (by rw [hask, hs]; rfl), hy]
end Mine
end

/-! Str7 -/
section
open PySem PySem.W PyProof.Rows
set_option maxRecDepth 100000
namespace Mine
def stD (f : String) (i : Nat) : Stmt := (bodyOf f).getD i (.Pass ⟨0, 0, 0, 0⟩)
def ifB (st : Stmt) (i : Nat) : Stmt := match st with | .If _ b _ _ => b.getD i (.Pass ⟨0, 0, 0, 0⟩) | _ => .Pass ⟨0, 0, 0, 0⟩
def ifT (st : Stmt) : Expr := match st with | .If t _ _ _ => t | _ => .Constant .none 0 ⟨0, 0, 0, 0⟩
theorem pp_body : ∃ p1 p2 p3 p4 p5 p6 p7 q1 q2 q3 q4 q5 q6, bodyOf "_parse_push" = [stD "_parse_push" 0,
    .If (ifT (stD "_parse_push" 1)) [ifB (stD "_parse_push" 1) 0, .Assign [.Name (nm "y") p1] (.Call (.Attribute (.Name (nm "s") p2) (nm "read") p3) [.Name (nm "x") p4] [] p5) p6, ifB (stD "_parse_push" 1) 2, ifB (stD "_parse_push" 1) 3] [] p7,
    .Assign [.Name (nm "data") q1] (.Call (.Attribute (.Name (nm "s") q2) (nm "read") q3) [.Name (nm "data_length") q4] [] q5) q6, stD "_parse_push" 3, stD "_parse_push" 4] ∧ p3.endLine = p5.line ∧ q3.endLine = q5.line :=
  ⟨_, _, _, _, _, _, _, _, _, _, _, _, _, by with_unfolding_all rfl, by with_unfolding_all rfl, by with_unfolding_all rfl⟩
abbrev exPP (T : Tbl) (f : String) (d : Nat) : Stmt → Vars → KS → Option PV := exN T (scOf f) 16 4000 d
def ppS (x : Addr) (w : Nat) : Vars := [(nm "s", .val (.raw (.ref x))), (nm "i", .val (.int w))]
def ppS1 (x : Addr) (w dl : Nat) : Vars := [(nm "s", .val (.raw (.ref x))), (nm "i", .val (.int w)), (nm "data_length", .val (.int dl))]
def ppS2 (x : Addr) (w dl z : Nat) : Vars := [(nm "s", .val (.raw (.ref x))), (nm "i", .val (.int w)), (nm "data_length", .val (.int dl)), (nm "x", .val (.int z))]
def ppS3 (x : Addr) (w dl z : Nat) (y : List UInt8) : Vars := [(nm "s", .val (.raw (.ref x))), (nm "i", .val (.int w)), (nm "data_length", .val (.int dl)), (nm "x", .val (.int z)), (nm "y", .val (.bytes y))]
theorem pp0 (x : Addr) (w : Nat) (k : KS) : exPP base "_parse_push" 8 (stD "_parse_push" 0) (ppS x w) k = k .next (ppS1 x w w) := by kernel_rfl
theorem ppT (x : Addr) (w : Nat) (k : Bool → Option PV) : (evN base 16).tr (scOf "_parse_push") (ifT (stD "_parse_push" 1)) (rdA (ppS1 x w w)) k = bif decide ((75 : Int) < (w : Int)) then k (decide ((w : Int) < 79)) else k false := by kernel_rfl
theorem ppX0 (x : Addr) (w : Nat) (k : KS) : exPP base "_parse_push" 8 (ifB (stD "_parse_push" 1) 0) (ppS1 x w w) k = pow2 ((w : Int) - 76) fun z => k .next [(nm "s", .val (.raw (.ref x))), (nm "i", .val (.int w)), (nm "data_length", .val (.int w)), (nm "x", .val (.int z))] := by kernel_rfl
theorem ppX2 (x : Addr) (w z : Nat) (y : List UInt8) (k : KS) : exPP base "_parse_push" 8 (ifB (stD "_parse_push" 1) 2) (ppS3 x w w z y) k = lenB y fun n => bif !decide (n = (z : Int)) then k (.ret .none) (ppS3 x w w z y) else k .next (ppS3 x w w z y) := by kernel_rfl
theorem ppX3 (x : Addr) (w z : Nat) (y : List UInt8) (k : KS) : exPP base "_parse_push" 8 (ifB (stD "_parse_push" 1) 3) (ppS3 x w w z y) k = fromB y fun d => k .next (putV (ppS3 x w w z y) (nm "data_length") (.val (.int d))) := by kernel_rfl
def ppS4 (x : Addr) (w dl : Nat) (d : List UInt8) (zy : Option (Nat × List UInt8)) : Vars := (nm "s", .val (.raw (.ref x))) :: (nm "i", .val (.int w)) :: (nm "data_length", .val (.int dl)) :: (match zy with
  | none => [(nm "data", .val (.bytes d))]
  | some (z, y) => [(nm "x", .val (.int z)), (nm "y", .val (.bytes y)), (nm "data", .val (.bytes d))])
theorem pp3 (x : Addr) (w dl : Nat) (d : List UInt8) (zy : Option (Nat × List UInt8)) (k : KS) : exPP base "_parse_push" 8 (stD "_parse_push" 3) (ppS4 x w dl d zy) k = lenB d fun n => bif !decide (n = (dl : Int)) then k (.ret .none) (ppS4 x w dl d zy) else k .next (ppS4 x w dl d zy) := by
  rcases zy with _ | ⟨z, y⟩ <;> kernel_rfl
theorem pp4 (x : Addr) (w dl : Nat) (d : List UInt8) (zy : Option (Nat × List UInt8)) (k : KS) : exPP base "_parse_push" 8 (stD "_parse_push" 4) (ppS4 x w dl d zy) k = gate (lenOk d.length) (gate (decide ((hexS d).length ≤ 5592405)) (k (.ret (.str (upS (hexS d)))) (ppS4 x w dl d zy))) := by
  rcases zy with _ | ⟨z, y⟩ <;> kernel_rfl
end Mine
end

/-! Str8 -/
section
open PySem PySem.W PyProof.Rows
set_option maxRecDepth 100000
namespace Mine
variable {prog : Program} {w : World} {h₁ : Heap} {n : Nat} {A : Around} {s s' s'' s₁ : Shared} {H H' H₁ : PHeap} {r : PV} {E : Value → Shared → Prop} {K : Frag} {C x dx ba : Addr} {b : List UInt8} {p p' : Nat} {fread fcheck : Addr} {fd fd' : FuncData} {sc : Scope} {env : PySem.Env} {Mu : Addr → Prop} {σ : Vars} {s₀ : Shared} {H₀ : PHeap}

theorem dropTake (b : List UInt8) (p m : Nat) : (b.drop p).take m = sl b p m := by unfold sl; rw [List.drop_take]; congr 1; omega
theorem sl_len_min (b : List UInt8) (p m : Nat) : (sl b p m).length = min m (b.length - p) := by rw [← dropTake]; simp
def ppSec (b : List UInt8) (p dl : Nat) : PV × Nat := if p + dl ≤ b.length then (.str (upS (hexS (sl b p dl))), p + dl) else (.none, b.length)
/-- what _parse_push answers, and where the stream then stands -/
def ppV (b : List UInt8) (p wd : Nat) : PV × Nat := if 75 < wd then (if p + 2 ^ (wd - 76) ≤ b.length then ppSec b (p + 2 ^ (wd - 76)) (leV (sl b p (2 ^ (wd - 76)))) else (.none, b.length)) else ppSec b p wd
def ppS0 (x : Addr) (wd dl : Nat) (zy : Option (Nat × List UInt8)) : Vars := (nm "s", .val (.raw (.ref x))) :: (nm "i", .val (.int wd)) :: (nm "data_length", .val (.int dl)) :: (match zy with
  | none => []
  | some (z, y) => [(nm "x", .val (.int z)), (nm "y", .val (.bytes y))])
theorem ppS0_data (x : Addr) (wd dl : Nat) (zy : Option (Nat × List UInt8)) (d : List UInt8) : putV (ppS0 x wd dl zy) (nm "data") (.val (.bytes d)) = ppS4 x wd dl d zy := by
  rcases zy with _ | ⟨z, y⟩ <;> kernel_rfl
theorem ppS0_s (x : Addr) (wd dl : Nat) (zy : Option (Nat × List UInt8)) : lookV (ppS0 x wd dl zy) (nm "s") = some (.val (.raw (.ref x))) := by
  rcases zy with _ | ⟨z, y⟩ <;> rfl
theorem ppS0_dl (x : Addr) (wd dl : Nat) (zy : Option (Nat × List UInt8)) : lookV (ppS0 x wd dl zy) (nm "data_length") = some (.val (.int dl)) := by
  rcases zy with _ | ⟨z, y⟩ <;> rfl
theorem read_name (ok : EnvOk sc env) (fb : FB prog w h₁ Mu sc env σ s₀ H₀ s H) {y : Str} {pos : Pos} {z : Nat} (h : lookV σ y = some (.val (.int z))) {Q : Value → Shared → Prop} (q : ∀ t s', After s H s' H → Q (.int z t) s') : wpAny (model prog w) A (eval (.Name y pos) env) Q E s := by
  obtain ⟨v, hv, hr⟩ := fb.read h
  cases hr
  exact name_read ok.kind hv (q _ _ (.refl fb.base.sub))
theorem pp_tail (Z : StrK prog w h₁ K C fread fcheck) (TO : TblOk prog w h₁ (n + 3) base) (ok : EnvOk (scOf "_parse_push") env) {wd dl : Nat} {zy : Option (Nat × List UInt8)} {g₀ : Heap} {q1 q2 q3 q4 q5 q6 : Pos} {Q : Flow → Shared → Prop} (fb : FB prog w h₁ Mu (scOf "_parse_push") env (ppS0 x wd dl zy) { s with heap := g₀ } H s₁ H₁)
    (T : StartTo C x dx ba b p s.heap g₀) (S0 : ∃ p, StreamAt C s.heap x dx ba b p) (S : StreamAt C s₁.heap x dx ba b p) (hm : Off Mu x dx ba) (hH : H₁ dx = none) (R : Room (n + 3) A) (hl : b.length ≤ 100000) (hp : p ≤ b.length) (hz : dl ≤ 10000000000) (hq : q3.endLine = q5.line)
    (q : ∀ s' v, Moved C x dx ba b (ppSec b p dl).2 H s s' → (∀ H, Rep prog w H v (ppSec b p dl).1) → Q (.ret v) s') :
    wpAny (model prog w) A (execs [.Assign [.Name (nm "data") q1] (.Call (.Attribute (.Name (nm "s") q2) (nm "read") q3) [.Name (nm "data_length") q4] [] q5) q6, stD "_parse_push" 3, stD "_parse_push" 4] env) Q E s₁ := by
  obtain ⟨p0, S0⟩ := S0
  have SX : ∀ {s₀ H₀}, SndX prog w h₁ (n + 3) (scOf "_parse_push") env s₀ H₀ (exPP base "_parse_push" 8) := exN_sound TO ok 15 4000 8
  refine wpAny_execs_cons (read_stmt (n := n) Z ok (sz := dl) fb S hm hH (.inr (T.2.2 _ S0)) R (by omega) hp (by omega) hq (by kernel_rfl) (ppS0_s ..) rfl (fun q => read_name ok fb (ppS0_dl ..) q) fun g₁ s₂ T₁ fb₂ S₂ => ?_)
  rw [dropTake, ppS0_data] at fb₂
  have T₂ := T.trans T₁
  refine wpAny_execs_cons (stmt_step SX R (P := fun f σ' => σ' = ppS4 x wd dl (sl b p dl) zy ∧ ((f = .ret .none ∧ ¬ p + dl ≤ b.length) ∨ (f = .next ∧ p + dl ≤ b.length))) (fun k hk => ?_) fb₂ (fun fl f σ' Mu₃ s₃ H₃ fb₃ _ m P => ?_) fun v pv σ' s' H' a hv P => ?_)
  · rw [pp3, lenB_ok (by rw [sl_len_min]; omega), sl_len_min]
    by_cases c : p + dl ≤ b.length
    · rw [show (!decide (((min dl (b.length - p) : Nat) : Int) = (dl : Int))) = false by simp; omega]
      exact hk _ _ ⟨rfl, .inr ⟨rfl, c⟩⟩
    · rw [show (!decide (((min dl (b.length - p) : Nat) : Int) = (dl : Int))) = true by simp; omega]
      exact hk _ _ ⟨rfl, .inl ⟨rfl, c⟩⟩
  rotate_left
  · obtain ⟨rfl, ⟨e1, c⟩ | ⟨e1, _⟩⟩ := P
    · cases e1
      cases hv with
      | none =>
      refine q s' _ ⟨g₁, T₂.1, ?_, a.weak⟩ fun H => ?_
      · have := T₂.2.2 _ S0
        rw [show min (p + dl) b.length = (ppSec b p dl).2 by unfold ppSec; rw [if_neg c]; dsimp only; omega] at this
        exact this
      · unfold ppSec; rw [if_neg c]; exact .none
    · cases e1
  obtain ⟨rfl, ⟨e1, _⟩ | ⟨rfl, c⟩⟩ := P
  · cases m <;> cases e1
  cases m
  refine wpAny_execs_cons (stmt_step SX R (P := fun f σ' => f = .ret (.str (upS (hexS (sl b p dl))))) (fun k hk => ?_) fb₃ (fun fl f σ' Mu₃ s₃ H₃ fb₃ _ m P => ?_) fun v pv σ' s' H' a hv P => ?_)
  · rw [pp4, gateT (lenT (by rw [sl_len_min]; omega)), gateT (decide_eq_true (by rw [hexS_len, sl_len_min]; omega))]
    exact hk _ _ rfl
  · subst P; cases m
  · cases P
    cases hv with
    | str _ t =>
    refine q s' _ ⟨g₁, T₂.1, ?_, a.weak⟩ fun H => ?_
    · have := T₂.2.2 _ S0
      rw [show min (p + dl) b.length = (ppSec b p dl).2 by unfold ppSec; rw [if_pos c]; dsimp only; omega] at this
      exact this
    · unfold ppSec; rw [if_pos c]; exact .str _ t
end Mine
end

/-! Str9 -/
section
open PySem PySem.W PyProof.Rows
set_option maxRecDepth 100000
namespace Mine
variable {prog : Program} {w : World} {h₁ : Heap} {n : Nat} {A : Around} {s s' s'' s₁ : Shared} {H H' H₁ : PHeap} {r : PV} {E : Value → Shared → Prop} {K : Frag} {C x dx ba : Addr} {b : List UInt8} {p p' : Nat} {fread fcheck : Addr} {fd fd' : FuncData} {sc : Scope} {env : PySem.Env} {Mu : Addr → Prop} {σ : Vars} {s₀ : Shared} {H₀ : PHeap}
def parOf (n : String) : Arguments := match fnOf? (Str.ofString n) with | some x => x.1 | none => default
def posOf (o : Obj) : Int := match o.data with
  | .dict es _ => match es.toList with
    | _ :: e :: _ => match e.val with
      | .int i _ => i
      | _ => 0
    | _ => 0
  | _ => 0
theorem pow_small {wd : Nat} (h1 : 75 < wd) (h2 : wd ≤ 78) : 2 ^ (wd - 76) = 1 ∨ 2 ^ (wd - 76) = 2 ∨ 2 ^ (wd - 76) = 4 := by
  have : wd = 76 ∨ wd = 77 ∨ wd = 78 := by omega
  rcases this with rfl | rfl | rfl <;> simp
theorem pp_call (Z : StrK prog w h₁ K C fread fcheck) {fa : Addr} (F : FnAt K fa (parOf "_parse_push") (bodyOf "_parse_push") (scOf "_parse_push") fd) (hd : fd.defaults = .none) (hk : fd.kwdefaults = .none) (TO : TblOk prog w h₁ (n + 3) base)
    {wd : Nat} {t : Tok} {Q : Value → Shared → Prop} (S : StreamAt C s.heap x dx ba b p) (R : Room (n + 4) A) (g : Base h₁ H s) (hH : H dx = none) (hl : b.length ≤ 100000) (hp : p ≤ b.length) (hw : wd ≤ 78)
    (q : ∀ s' v, Moved C x dx ba b (ppV b p wd).2 H s s' → (∀ H, Rep prog w H v (ppV b p wd).1) → Q v s') : wpAny (model prog w) A (call (.ref fa) [.ref x, .int wd t]) Q E s := by
  obtain ⟨o, ho, hod⟩ := F.get Z.X
  have hs := F.scope
  have bind : BindsTo s fd ⟨[.ref x, .int wd t], []⟩ [(nm "s", .ref x), (nm "i", .int wd t)] := by
    refine .of_eq ?_
    have h1 := F.params
    obtain ⟨⟩ := fd
    dsimp only at h1 hd hk
    subst h1 hd hk
    kernel_rfl
  refine wpAny_call (code_open (n := n + 3) (pb := [(nm "s", .raw (.ref x)), (nm "i", .int wd)]) (g.keep _ _ ho) hod (Z.lim.keeps g.keep) ((codeRec_of Z.X F.code).keeps g.keep) F.body F.clo F.glob F.blt (by rw [hs]; kernel_rfl)
    bind (.cons (.raw _) (.cons (.int _ _) .nil)) R g fun env Mu s₁ ok R' fb => ?_)
  rw [hs] at ok fb
  obtain ⟨p1, p2, p3, p4, p5, p6, p7, q1, q2, q3, q4, q5, q6, e, ep, eq⟩ := pp_body
  rw [e]
  have SX : ∀ {s₀ H₀}, SndX prog w h₁ (n + 3) (scOf "_parse_push") env s₀ H₀ (exPP base "_parse_push" 8) := exN_sound TO ok 15 4000 8
  have EV : EvOk prog w h₁ (n + 3) (evN base 16) := evN_sound TO 16
  have off : Off Mu x dx ba := ⟨fun m => (by have := fb.fresh _ m; rw [S.inst] at this; cases this), fun m => S.there (fb.fresh _ m), fun m => (by have := fb.fresh _ m; rw [S.buf] at this; cases this)⟩
  have S₁ := S.keeps fb.finish.keep
  have T0 : StartTo C x dx ba b p s.heap s.heap := ⟨fun _ _ => rfl, fun _ => rfl, fun r e => by
    obtain ⟨_, _, _, _, _, e1⟩ := e.dict
    obtain ⟨_, _, _, _, _, e2⟩ := S.dict
    have e3 := Option.some.inj (e1.symm.trans e2)
    have e4 : (r : Int) = (p : Int) := congrArg posOf e3
    have : r = p := by omega
    exact this ▸ e⟩
  -- data_length = i
  refine wpAny_execs_cons (stmt_step SX R' (P := fun f σ' => f = .next ∧ σ' = ppS1 x wd wd) (fun k hk => ?_) fb (fun fl f σ' Mu₂ s₂ H₂ fb₂ st₂ m P => ?_) fun v p σ' s' H' _ _ P => nomatch P.1)
  · rw [show valsOf [(nm "s", PV.raw (.ref x)), (nm "i", PV.int wd)] = ppS x wd from rfl, pp0]
    exact hk _ _ ⟨rfl, rfl⟩
  obtain ⟨rfl, rfl⟩ := P
  cases m
  have S₂ := S₁.step off st₂
  have off₂ := off.step S₁ st₂
  have hH₂ := step_none hH S₁.there st₂
  -- if 75 < i < 79
  refine wpAny_execs_cons (wpAny_If (test_step' (EV _ _ _ ok).2 R' (P := fun c => c = decide (75 < wd)) (fun k hk => ?_) fb₂.opens fun c s₃ H₃ a₃ hc => ?_))
  · rw [ppT]
    by_cases c : 75 < wd
    · rw [decide_eq_true (by omega), show decide ((wd : Int) < 79) = true from decide_eq_true (by omega)]
      exact hk _ (by rw [decide_eq_true c])
    · rw [decide_eq_false (by omega)]
      exact hk _ (by rw [decide_eq_false c])
  subst hc
  have fb₃ := fb₂.forget a₃.same a₃.keep
  have S₃ := S₂.keeps a₃.keep
  by_cases c : 75 < wd
  · rw [decide_eq_true c, if_pos rfl]
    have hz := pow_small c hw
    -- x = 2 ** (i - 76)
    refine wpAny_execs_cons (stmt_step SX R' (P := fun f σ' => f = .next ∧ σ' = ppS2 x wd wd (2 ^ (wd - 76))) (fun k hk => ?_) fb₃ (fun fl f σ' Mu₄ s₄ H₄ fb₄ st₄ m P => ?_) fun v p σ' s' H' _ _ P => nomatch P.1)
    · rw [ppX0]
      unfold pow2
      rw [show (wd : Int) - 76 = ((wd - 76 : Nat) : Int) by omega, gateT (by rw [decide_eq_true (by omega), decide_eq_true (by omega)]; rfl), Int.toNat_natCast]
      refine hk _ _ ⟨rfl, ?_⟩
      unfold ppS2
      rw [show ((2 ^ (wd - 76) : Nat) : Int) = (2 : Int) ^ (wd - 76) by norm_cast]
    obtain ⟨rfl, rfl⟩ := P
    cases m
    have S₄ := S₃.step off₂ st₄
    have off₄ := off₂.step S₃ st₄
    have hH₄ := step_none hH₂ S₃.there st₄
    -- y = s.read(x)
    refine wpAny_execs_cons (read_stmt (n := n) Z ok (sz := 2 ^ (wd - 76)) fb₄ S₄ off₄ hH₄ (.inr S) R' (by omega) hp (by omega) ep (by kernel_rfl) rfl rfl (fun q => read_name ok fb₄ rfl q) fun g₅ s₅ T₅ fb₅ S₅ => ?_)
    rw [dropTake, show putV (ppS2 x wd wd (2 ^ (wd - 76))) (nm "y") (.val (.bytes (sl b p (2 ^ (wd - 76))))) = ppS3 x wd wd (2 ^ (wd - 76)) (sl b p (2 ^ (wd - 76))) from by kernel_rfl] at fb₅
    -- if len(y) != x: return None
    refine wpAny_execs_cons (stmt_step SX R' (P := fun f σ' => σ' = ppS3 x wd wd (2 ^ (wd - 76)) (sl b p (2 ^ (wd - 76))) ∧ ((f = .ret .none ∧ ¬ p + 2 ^ (wd - 76) ≤ b.length) ∨ (f = .next ∧ p + 2 ^ (wd - 76) ≤ b.length))) (fun k hk => ?_) fb₅ (fun fl f σ' Mu₆ s₆ H₆ fb₆ st₆ m P => ?_) fun v pv σ' s' H' a hv P => ?_)
    · rw [ppX2, lenB_ok (by rw [sl_len_min]; omega), sl_len_min]
      by_cases c2 : p + 2 ^ (wd - 76) ≤ b.length
      · rw [show (!decide (((min (2 ^ (wd - 76)) (b.length - p) : Nat) : Int) = ((2 ^ (wd - 76) : Nat) : Int))) = false by rw [decide_eq_true (by omega)]; rfl]
        exact hk _ _ ⟨rfl, .inr ⟨rfl, c2⟩⟩
      · rw [show (!decide (((min (2 ^ (wd - 76)) (b.length - p) : Nat) : Int) = ((2 ^ (wd - 76) : Nat) : Int))) = true by rw [decide_eq_false (by omega)]; rfl]
        exact hk _ _ ⟨rfl, .inl ⟨rfl, c2⟩⟩
    rotate_left
    · obtain ⟨rfl, ⟨e1, c2⟩ | ⟨e1, _⟩⟩ := P
      · cases e1
        cases hv with
        | none =>
        refine q s' _ ⟨g₅, T₅.1, ?_, a.weak⟩ fun H => ?_
        · have := T₅.2.2 _ S
          rw [show min (p + 2 ^ (wd - 76)) b.length = (ppV b p wd).2 by unfold ppV; rw [if_pos c, if_neg c2]; dsimp only; omega] at this
          exact this
        · unfold ppV; rw [if_pos c, if_neg c2]; exact .none
      · cases e1
    obtain ⟨rfl, ⟨e1, _⟩ | ⟨rfl, c2⟩⟩ := P
    · cases m <;> cases e1
    cases m
    have S₆ := S₅.step off₄ st₆
    have off₆ := off₄.step S₅ st₆
    have hH₆ := step_none hH₄ S₅.there st₆
    have hlen : (sl b p (2 ^ (wd - 76))).length = 2 ^ (wd - 76) := sl_len c2
    -- data_length = int.from_bytes(y, ...)
    refine wpAny_execs_cons (stmt_step SX R' (P := fun f σ' => f = .next ∧ σ' = ppS0 x wd (leV (sl b p (2 ^ (wd - 76)))) (some (2 ^ (wd - 76), sl b p (2 ^ (wd - 76))))) (fun k hk => ?_) fb₆ (fun fl f σ' Mu₇ s₇ H₇ fb₇ st₇ m P => ?_) fun v p σ' s' H' _ _ P => nomatch P.1)
    · rw [ppX3]
      unfold fromB
      rw [gateT (decide_eq_true (by omega))]
      exact hk _ _ ⟨rfl, by kernel_rfl⟩
    obtain ⟨rfl, rfl⟩ := P
    cases m
    have S₇ := S₆.step off₆ st₇
    refine wpAny_execs_nil ?_
    have hdl : leV (sl b p (2 ^ (wd - 76))) ≤ 10000000000 := by
      have := leV_lt (sl b p (2 ^ (wd - 76)))
      rw [hlen] at this
      rcases hz with e | e | e <;> rw [e] at this ⊢ <;> omega
    refine pp_tail (p := p + 2 ^ (wd - 76)) Z TO ok fb₇ ?_ ⟨p, S⟩ ?_ (off₆.step S₆ st₇) (step_none hH₆ S₆.there st₇) R' hl c2 hdl eq fun s' v M rv => ?_
    · rw [show min (p + 2 ^ (wd - 76)) b.length = p + 2 ^ (wd - 76) by omega] at T₅; exact T₅
    · rw [show min (p + 2 ^ (wd - 76)) b.length = p + 2 ^ (wd - 76) by omega] at S₇; exact S₇
    · have ev : ppV b p wd = ppSec b (p + 2 ^ (wd - 76)) (leV (sl b p (2 ^ (wd - 76)))) := by unfold ppV; rw [if_pos c, if_pos c2]
      exact q s' v (ev ▸ M) (ev ▸ rv)
  · rw [decide_eq_false c, if_neg (by decide)]
    refine wpAny_execs_nil ?_
    have ev : ppV b p wd = ppSec b p wd := by unfold ppV; rw [if_neg c]
    exact pp_tail (p := p) (zy := none) Z TO ok fb₃ T0 ⟨p, S⟩ S₃ off₂ hH₂ R' hl hp (by omega) eq fun s' v M rv => q s' v (ev ▸ M) (ev ▸ rv)
end Mine
end

/-! Bo1 -/
section
open PySem PySem.W PyProof.Rows PySem.Calls
open Builtin Builtin.ObjectAttr Builtin.Getset_descriptor
set_option maxRecDepth 100000
namespace Mine
variable {prog : Program} {w : World} {h₁ : Heap} {A : Around} {E : Value → Shared → Prop} {s : Shared} {K : Frag} {C p fnew finit : Addr} {R : Result → Shared → Prop} {h : Heap} {g : Array GenState} {d : Drawn} {t : Nat} {os : OsState}

def objB (K : Frag) (C : Addr) : Bool := match K.lookup C with
  | some ⟨_, _, .cls cd, _⟩ => !cd.abstract && (!cd.hasDel && !cd.mro.isEmpty)
  | _ => false
theorem objB_of {K : Frag} {C : Addr} (e : objB K C = true) : ∃ oc od cd sl, K.lookup C = some ⟨oc, od, .cls cd, sl⟩ ∧ cd.abstract = false ∧ cd.hasDel = false ∧ cd.mro.isEmpty = false := by
  unfold objB at e
  split at e
  · rename_i q
    simp only [Bool.and_eq_true, Bool.not_eq_true'] at e
    exact ⟨_, _, _, _, q, e.1, e.2.1, e.2.2⟩
  · cases e
/-- what is known of the making of a stream -/
structure BioK (K : Frag) (C p fnew finit : Addr) : Prop where
  obj : objB K C = true
  here : ∀ st, peek K st (Bind.madeHere "object.__new__" (.ref C)) = some ()
  base : ∀ st, peek K st (Bind.staticBase (.ref C)) = some (.type "object")
  baseM : ∀ st, peek K st (Bind.madeBy (.type "object")) = some (some "object.__new__")
  top : mroIn K C (.type "object") = some true
  made : ∀ st, peek K st (Bind.madeBy (.ref C)) = some none
  call : specialIn K (.ref C) "__call__" = some (some (.builtin "type.__call__"))
  typ : instIn K (.ref C) (.type "type") = some true
  self : mroIn K C (.ref C) = some true
  reads : readsIn K C (.type "type") = true
  newE : findCls K (.ref C) (.type "type") "__new__" = some (.get (.builtin "staticmethod.__get__") (.ref p) .none (.ref C))
  sm : recIn K p "staticmethod" = some [.ref fnew]
  init : findIn K (.ref C) "__init__" = some (some (.ref finit))
  initF : typeIn K (.ref finit) = some (.type "function")
  objE : findCls K (.type "object") (.type "type") "__new__" = some (.val (.builtin "object.__new__"))
theorem ob_new (X : K.In h) (Y : BioK K C p fnew finit)
    (hq : R (.ok (.ret (.ref (h.objs.size + 1)))) ⟨(h.push emptyDict).push (instObj C h.objs.size), g, d, t, os⟩) :
    codeAny (model prog w) A (.call (.builtin "object.__new__") ⟨[.ref C], []⟩) R ⟨h, g, d, t, os⟩ := by
  obtain ⟨oc, od, cd, sl, hK, e1, e2, e4⟩ := objB_of Y.obj
  have hC := X _ _ hK
  have F := PySem.F.objNew
  refine codeAny_call_builtin_code (Code.quiet_builtin _ F.quiet) ?_
  simp only [checkBuiltinCall, F.kind, F.split, F.row]
  have here : Looks (model prog w) h (Bind.madeHere "object.__new__" (.ref C)) () := Looks.of_peek X (Y.here _)
  have base : Looks (model prog w) h (Bind.staticBase (.ref C)) (.type "object") := Looks.of_peek X (Y.base _)
  have made : Looks (model prog w) h (Bind.madeBy (.type "object")) (some "object.__new__") := Looks.of_peek X (Y.baseM _)
  have top : Looks (model prog w) h (isSubtype (.ref C) (.type "object")) true := looks_mroIn X Y.top
  have typ : Looks (model prog w) h (isInstance (.ref C) (.type "type")) true := looks_instIn X Y.typ
  have args : Bind.checkArgs "object.__new__" ⟨.hand, "object.__new__", "__new__", .cls, []⟩ ⟨[.ref C], []⟩ = pure () := by kernel_rfl
  rw [args]
  repeat (first | simp only [bne_self_eq_false, Bool.false_eq_true, if_false] | lk)
  refine codeAny_builtin F.entry ?_
  unfold Builtin.«object.__new__»
  have fin : ∀ A', wpAny (model prog w) A' (do
      let d ← if typeHasDict (.ref C) then some <$> alloc { cls := .type "dict", data := .dict #[] } else pure none
      ret (← newObj (.ref C) .plain d)) (fun fin s' => match fin with | .done f => R (.ok f) s' | .again c' => c'.quiet = true ∧ codeAny (model prog w) A c' R s') (fun e s' => R (.error e) s') ⟨h, g, d, t, os⟩ := by
    intro A'
    show wpAny _ _ ((alloc emptyDict >>= fun x => pure (some x)) >>= _) _ _ _
    refine wpAny_bind (wpAny_bind (wpAny_alloc (wpAny_pure (wpAny_bind ?_))))
    show wpAny _ _ (newObjAsIs _ _ _) _ _ _
    unfold newObjAsIs classHasDel
    refine wpAny_bind (wpAny_alloc (wpAny_bind (wpAny_bind (wpAny_load (Heap.get?_push_of_some _ (Heap.get?_push_of_some _ hC)) (wpAny_pure ?_)))))
    rw [e2]
    refine wpAny_pure (wpAny_pure ?_)
    show R _ _
    rw [Heap.size_push]
    exact hq
  repeat (first | simp only [e1, Bool.false_eq_true, if_false] | exact fin _ | lk)
end Mine
end

/-! Kx -/
section
open PySem PySem.W PyProof.Rows
set_option maxRecDepth 100000
namespace Mine

def methK (K : Frag) (C : Addr) (name : Str) : Addr := match findIn K (.ref C) name with | some (some (.ref f)) => f | _ => 0
def bioC (K : Frag) : Addr := globK K (nm "BytesIO")
def smP (K : Frag) : Addr := methK K (bioC K) (nm "__new__")
def smF (K : Frag) : Addr := match recIn K (smP K) "staticmethod" with | some (.ref f :: _) => f | _ => 0
def dAt (K : Frag) (x : Str) : List DictEntry := match K.lookup (globK K x) with | some ⟨_, _, .dict es _, _⟩ => es.toList | _ => []
def dPlain (K : Frag) (x : Str) : Bool := PySem.W.nsIn K mainGlobals x == some (some (.ref (globK K x))) && decide (globK K x ≠ sysModules) && match K.lookup (globK K x) with
  | some ⟨c, d, .dict _ _, sl⟩ => (c == .type "dict") && d.isNone && sl.isEmpty
  | _ => false
/-- an entry: text of an int, or octets of a text -/
def kI : DictEntry → Option (Int × Int × Str)
  | ⟨h, .int k _, .str x _⟩ => some (k, h, x)
  | _ => none
def kS : DictEntry → Option (Str × Int × List UInt8)
  | ⟨h, .str k _, .bytes x _⟩ => some (k, h, x.toList)
  | _ => none
def defN : List String := ["bytes_from_octets", "_index", "bytesio_from_binarydata", "_message_text", "is_integer", "is_octets", "assert_type", "decode_num", "encode_num", "op_int", "push_int", "_serialize_int_command", "_assert_ascii_command", "_serialize_str_command", "_serialize_bytes_command", "_pushdata", "serialize", "_parse_push", "parse", "_core_op_code_name", "_is_valid_signature_encoding", "script_to_asm", "_push_size", "read_op_code", "op_code_spans", "_law_kinds", "_law_read", "_law_all", "_law_laid", "_law_octets", "_law_number", "_law_integer", "_law_signed", "_law_said", "_law_signature", "_law_part", "_law_command", "law"]
def simpN : List String := defN.filter fun f => !(f == "bytes_from_octets" || f == "script_to_asm")
def blt : List (String × Value) := [("int", .type "int"), ("bool", .type "bool"), ("str", .type "str"), ("bytes", .type "bytes"), ("bytearray", .type "bytearray"), ("memoryview", .type "memoryview"), ("list", .type "list"), ("tuple", .type "tuple"), ("type", .type "type"), ("object", .type "object"), ("range", .type "range"),
  ("len", .builtin "len"), ("abs", .builtin "abs"), ("sum", .builtin "sum"), ("isinstance", .builtin "isinstance"), ("ValueError", .type "ValueError")]
def iAt (K : Frag) (x : Str) : Option Int := match PySem.W.nsIn K mainGlobals x with | some (some (.int i _)) => some i | _ => none
def sAt (K : Frag) (x : Str) : Option Str := match PySem.W.nsIn K mainGlobals x with | some (some (.str i _)) => some i | _ => none
structure AllK (w : World) (K : Frag) : Prop where
  defs : defN.all (fun f => fnB K (globK K (nm f)) && PySem.W.nsIn K mainGlobals (nm f) == some (some (.ref (globK K (nm f))))) = true
  body : ∀ f ∈ defN, (fnK K (globK K (nm f))).body = .stmts (bodyOf f) ∧ (fnK K (globK K (nm f))).params = parOf f ∧ (fnK K (globK K (nm f))).scope = scOf f
  simp : simpN.all (fun f => (fnK K (globK K (nm f))).defaults == .none && (fnK K (globK K (nm f))).kwdefaults == .none) = true
  blts : blt.all (fun p => PySem.W.nsIn K mainGlobals (nm p.1) == some none && (bootBuiltins (nm p.1) == some p.2 && !(nm p.1 == ("__name__" : Str)))) = true
  cls : PySem.W.nsIn K mainGlobals (nm "BytesIO") = some (some (.ref (bioC K)))
  clsK : ClsK K (bioC K) (methK K (bioC K) (nm "read")) (methK K (bioC K) (nm "_BytesIO__check"))
  readF : fnB K (methK K (bioC K) (nm "read")) = true ∧ (fnK K (methK K (bioC K) (nm "read"))).params = mPar "BytesIO" "read" ∧ (fnK K (methK K (bioC K) (nm "read"))).body = .stmts (mBody "BytesIO" "read") ∧ (fnK K (methK K (bioC K) (nm "read"))).scope = mSc "BytesIO" "read"
  readB : ∀ st v1 v2, peek K st (bindArgs (fnK K (methK K (bioC K) (nm "read"))) ⟨[v1, v2], []⟩) = some [(nm "self", v1), (nm "size", v2)]
  checkF : fnB K (methK K (bioC K) (nm "_BytesIO__check")) = true ∧ (fnK K (methK K (bioC K) (nm "_BytesIO__check"))).params = mPar "BytesIO" "__check" ∧ (fnK K (methK K (bioC K) (nm "_BytesIO__check"))).body = .stmts (mBody "BytesIO" "__check") ∧ (fnK K (methK K (bioC K) (nm "_BytesIO__check"))).scope = mSc "BytesIO" "__check"
  checkD : (fnK K (methK K (bioC K) (nm "_BytesIO__check"))).defaults = .none ∧ (fnK K (methK K (bioC K) (nm "_BytesIO__check"))).kwdefaults = .none
  bio : BioK K (bioC K) (smP K) (smF K) (methK K (bioC K) (nm "__init__"))
  initF : fnB K (methK K (bioC K) (nm "__init__")) = true ∧ (fnK K (methK K (bioC K) (nm "__init__"))).params = mPar "BytesIO" "__init__" ∧ (fnK K (methK K (bioC K) (nm "__init__"))).body = .stmts (mBody "BytesIO" "__init__") ∧ (fnK K (methK K (bioC K) (nm "__init__"))).scope = mSc "BytesIO" "__init__"
  initB : ∀ st v1 v2, peek K st (bindArgs (fnK K (methK K (bioC K) (nm "__init__"))) ⟨[v1, v2], []⟩) = some [(nm "self", v1), (nm "initial_bytes", v2)]
  newF : fnB K (smF K) = true ∧ (fnK K (smF K)).params = mPar "IOBase" "__new__" ∧ (fnK K (smF K)).body = .stmts (mBody "IOBase" "__new__") ∧ (fnK K (smF K)).scope = mSc "IOBase" "__new__"
  newD : (fnK K (smF K)).defaults = .none ∧ (fnK K (smF K)).kwdefaults = .none
  isi : kitOne K (.type "bytes") (.ref (bioC K)) = some false
  bfoB : ∀ st v, peek K st (bindArgs (fnK K (globK K (nm "bytes_from_octets"))) ⟨[v], []⟩) = some [(nm "octets", v), (nm "out_size", .none)]
  asmB : ∀ st v, peek K st (bindArgs (fnK K (globK K (nm "script_to_asm"))) ⟨[v], []⟩) = some [(nm "script", v), (nm "attempt_sighash_decode", .bool false)]
  asmB2 : ∀ st v u, peek K st (bindArgs (fnK K (globK K (nm "script_to_asm"))) ⟨[v], [(nm "attempt_sighash_decode", u)]⟩) = some [(nm "script", v), (nm "attempt_sighash_decode", u)]
  fb : findCls K (.type "int") (.type "type") (PySem.Str.ofString "from_bytes") = some (.get (.builtin "classmethod_descriptor.__get__") (.builtin "int.from_bytes") .none (.type "int"))
  fh : findCls K (.type "bytes") (.type "type") (PySem.Str.ofString "fromhex") = some (.get (.builtin "classmethod_descriptor.__get__") (.builtin "bytes.fromhex") .none (.type "bytes"))
  n1 : iAt K (nm "MAX_SCRIPT_SIZE") = some 10000
  n2 : iAt K (nm "_MIN_SCRIPT_NUM") = some (-9223372036854775808)
  n3 : iAt K (nm "_MAX_SCRIPT_NUM") = some 9223372036854775807
  n4 : sAt K (nm "ERROR_COMMAND") = some (nm "[error]")
  d1 : dPlain K (nm "OP_CODE_NAME_FROM_INT") = true ∧ (dAt K (nm "OP_CODE_NAME_FROM_INT")).map kI = opName.map (fun p => some (p.1, hashInt p.1, p.2))
  d2 : dPlain K (nm "_CORE_SIG_HASH_NAME") = true ∧ (dAt K (nm "_CORE_SIG_HASH_NAME")).map kI = sigName.map (fun p => some (p.1, hashInt p.1, p.2))
  d3 : dPlain K (nm "BYTE_FROM_OP_CODE_NAME") = true ∧ (dAt K (nm "BYTE_FROM_OP_CODE_NAME")).map kS = opByte.map (fun p => some (p.1, hashStr w p.1, p.2))
  d4 : dPlain K (nm "_BYTE_FROM_UNKNOWN_OP_CODE_NAME") = true ∧ (dAt K (nm "_BYTE_FROM_UNKNOWN_OP_CODE_NAME")).map kS = opUnk.map (fun p => some (p.1, hashStr w p.1, p.2))
end Mine
end

/-! Bo2 -/
section
open PySem PySem.W PyProof.Rows PySem.Calls
set_option maxRecDepth 100000
namespace Mine
variable {prog : Program} {w : World} {h₁ : Heap} {n : Nat} {A : Around} {E : Value → Shared → Prop} {s s' : Shared} {H : PHeap} {K : Frag} {C p fnew finit : Addr} {fd : FuncData}

theorem bind_new (c v : Value) (hp : fd.params = mPar "IOBase" "__new__") (hd : fd.defaults = .none) (hk : fd.kwdefaults = .none) :
    bindArgs fd ⟨[c, v], []⟩ = (newTuple [v] >>= fun t => alloc emptyDict >>= fun d => pure [(nm "cls", c), (nm "args", t), (nm "kwargs", .ref d)]) := by
  obtain ⟨⟩ := fd
  dsimp only at hp hd hk
  subst hp hd hk
  kernel_rfl
theorem new_body : ∃ p1 p2 p3 p4 p5 p6, mBody "IOBase" "__new__" = [stN "IOBase" "__new__" 0, .Return (some (.Call (.Attribute (.Name (nm "object") p1) (nm "__new__") p2) [.Name (nm "cls") p3] [] p4)) p5] ∧ p2.endLine = p4.line ∧ p6 = p5 := ⟨_, _, _, _, _, _, by with_unfolding_all rfl, by with_unfolding_all rfl, rfl⟩
/-- the class is read as itself -/
def TC (C : Addr) : Tbl := { base with gl := fun x => bif decide (nm "BytesIO" = x) then some (.raw (.ref C)) else base.gl x }
theorem TC_ok (B : TblOk prog w h₁ n base) (hg : GlobIs h₁ (nm "BytesIO") (.ref C)) : TblOk prog w h₁ n (TC C) := by
  refine ⟨fun x p e => ?_, B.fn, B.mt⟩
  unfold TC at e
  dsimp only at e
  cases q : decide (nm "BytesIO" = x) with
  | true =>
    rw [q] at e
    cases e
    have := of_decide_eq_true q
    subst this
    exact ⟨by unfold nameOk; decide, _, hg, .raw _⟩
  | false => rw [q] at e; exact B.gl x p e
def nwS (C t d : Addr) : Vars := [(nm "cls", .val (.raw (.ref C))), (nm "args", .val (.raw (.ref t))), (nm "kwargs", .val (.raw (.ref d)))]
theorem nw0 (C t d : Addr) (k : KS) : exN (TC C) (mSc "IOBase" "__new__") 16 4000 8 (stN "IOBase" "__new__" 0) (nwS C t d) k = gate (decide (C = C)) (k .next (nwS C t d)) := by kernel_rfl
theorem on_get {pl : Sem Bool} {QQ : Value × List Value → Shared → Prop} (X : K.In s.heap)
    (e : findCls K (.type "object") (.type "type") "__new__" = some (.val (.builtin "object.__new__")))
    (h : QQ (.builtin "object.__new__", []) { s with toks := s.toks + 1 }) : wpAny (model prog w) A (getMethod (.type "object") "__new__" pl) QQ E s := by
  have hstub : opaqueClassAbove (.type "object") = pure none := by unfold opaqueClassAbove; dsimp only; rw [show Manifest.isStub "object" = false by decide +kernel]; rfl
  have ht : typeOf (.type "object") = pure (.type "type") := by first | rfl | kernel_rfl
  have L0 : Looks (model prog w) s.heap (typeOf (.type "object")) (.type "type") := Looks.of_pure ht
  have hg : findIn K (.type "type") "__getattribute__" = some (some (.builtin "type.__getattribute__")) := type_tga
  unfold getMethod specialOf
  refine wpAny_bind (wpAny_bind (L0.here ((looks_findIn X hg).here ?_)))
  dsimp only
  rw [if_pos canon_tga]
  refine wpAny_bind (wpAny_mono (Q := fun v => QQ (v, [])) (E := E) ?_ (fun _ _ z => wpAny_pure z) fun _ _ z => z)
  have LO : Looks (model prog w) s.heap (opaqueClassAbove (.type "object")) none := Looks.of_pure hstub
  refine cls_open X LO L0 hg (looks_hook X (r := none) (by rfl)) (by show subIn K _ _ = _; rfl) e ?_
  exact wpAny_pure (by show wpAny _ _ (handedOut _) _ _ _; rw [handedOut_of (by rfl)]; exact wpAny_pure h)
theorem new_call {v : Value} {Q : Value → Shared → Prop} (X : K.In h₁) (lim : h₁.NoLimit) (F : FnAt K fnew (mPar "IOBase" "__new__") (mBody "IOBase" "__new__") (mSc "IOBase" "__new__") fd) (hd : fd.defaults = .none) (hk : fd.kwdefaults = .none)
    (Y : BioK K C p fnew finit) (TO : TblOk prog w h₁ (n + 1) (TC C)) (go : GlobIs h₁ (nm "object") (.type "object")) (R : Room (n + 2) A) (g : Base h₁ H s)
    (q : ∀ x dx s', After s H s' H → s.heap.get? x = none → s.heap.get? dx = none → s'.heap.get? x = some (instObj C dx) → s'.heap.get? dx = some emptyDict → Q (.ref x) s') : wpAny (model prog w) A (call (.ref fnew) [.ref C, v]) Q E s := by
  obtain ⟨o, ho, hod⟩ := F.get X
  have hs := F.scope
  let s2 : Shared := { s with heap := (s.heap.push { cls := .type "tuple", data := .seq #[v] }).push emptyDict }
  have a2 : After s H s2 H := After.upd (t := s.toks) g.sub (fun c o e => Heap.get?_push_of_some _ (Heap.get?_push_of_some _ e))
  have g2 : Base h₁ H s2 := g.after a2
  refine wpAny_call (code_open' (n := n + 1) (s' := s2) (binds := [(nm "cls", .ref C), (nm "args", .ref s.heap.objs.size), (nm "kwargs", .ref (s.heap.push { cls := .type "tuple", data := .seq #[v] }).objs.size)])
    (pb := [(nm "cls", .raw (.ref C)), (nm "args", .raw (.ref s.heap.objs.size)), (nm "kwargs", .raw (.ref (s.heap.push { cls := .type "tuple", data := .seq #[v] }).objs.size))]) (g.keep _ _ ho) hod (lim.keeps g2.keep) ((codeRec_of X F.code).keeps g.keep) F.body F.clo F.glob F.blt (by rw [hs]; kernel_rfl)
    (fun q => ?_) (.cons (.raw _) (.cons (.raw _) (.cons (.raw _) .nil))) R g2 fun env Mu s₁ ok R' fb => ?_)
  · rw [bind_new _ _ F.params hd hk]
    exact wpAny_bind (wpAny_newTuple (wpAny_bind (wpAny_alloc (wpAny_pure q))))
  rw [hs] at ok fb
  obtain ⟨p1, p2, p3, p4, p5, p6, e, ep, _⟩ := new_body
  rw [e]
  have SX : ∀ {s₀ H₀}, SndX prog w h₁ (n + 1) (mSc "IOBase" "__new__") env s₀ H₀ (exN (TC C) (mSc "IOBase" "__new__") 16 4000 8) := exN_sound TO ok 15 4000 8
  refine wpAny_execs_cons (stmt_step SX R' (P := fun f σ' => f = .next ∧ σ' = nwS C s.heap.objs.size (s.heap.push { cls := .type "tuple", data := .seq #[v] }).objs.size) (fun k hk => ?_) fb (fun fl f σ' Mu₂ s₂ H₂ fb₂ st₂ m P => ?_) fun v p σ' s' H' _ _ P => nomatch P.1)
  · rw [show valsOf [(nm "cls", .raw (.ref C)), (nm "args", .raw (.ref s.heap.objs.size)), (nm "kwargs", .raw (.ref (s.heap.push { cls := .type "tuple", data := .seq #[v] }).objs.size))] = nwS C s.heap.objs.size (s.heap.push { cls := .type "tuple", data := .seq #[v] }).objs.size from rfl, nw0, gateT (decide_eq_true rfl)]
    exact hk _ _ ⟨rfl, rfl⟩
  obtain ⟨rfl, rfl⟩ := P
  cases m
  refine wpAny_execs_cons (wpAny_Return_some ?_)
  have X₂ : K.In s₂.heap := X.keeps fb₂.base.keep
  obtain ⟨vc, hvc, hrc⟩ := fb₂.read (y := nm "cls") (q := .raw (.ref C)) rfl
  cases hrc
  rw [arm_eval_Call, base_whole rfl]
  refine wpAny_bind (name_glob ok (by kernel_rfl) (by unfold nameOk; decide) (go.keeps fb₂.base.keep) ?_)
  refine wpAny_bind (wpAny_standAt ?_)
  have htrees : backTo p4 (starEach [.Name (nm "cls") p3] env) = [(false, eval (.Name (nm "cls") p3) env)] := rfl
  have hform : methodCallForm (([.Name (nm "cls") p3] : List Expr).length + ([] : List Keyword).length) (backTo p4 (starEach [.Name (nm "cls") p3] env)) (backToKw p4 (keywordEach [] env)) = true := by rw [htrees]; rfl
  have hpos : methodCallPos true (.Name (nm "object") p1) env p2 p4 = pure p4 := by unfold methodCallPos; simp [ep]
  unfold methodCall
  rw [hform]
  refine wpAny_bind (wpAny_holding (on_get X₂ Y.objE ?_))
  refine wpAny_bind (wpAny_of_eq hpos ?_)
  rw [htrees]
  refine Calls.callWith_builtin rfl (Calls.evalArgs_plain (Calls.spliced_cons (name_read ok.kind hvc (Calls.spliced_nil ?_))))
  have fin := (fb₂.finish.weak)
  have sz : s.heap.get? s₂.heap.objs.size = none ∧ s.heap.get? (s₂.heap.objs.size + 1) = none := by
    have k : Keep s.heap s₂.heap := a2.keep.trans fin.keep
    refine ⟨?_, ?_⟩
    · cases e : s.heap.get? s₂.heap.objs.size with
      | none => rfl
      | some o => exact absurd (Heap.lt_size (k _ _ e)) (Nat.lt_irrefl _)
    · cases e : s.heap.get? (s₂.heap.objs.size + 1) with
      | none => rfl
      | some o => exact absurd (Heap.lt_size (k _ _ e)) (Nat.not_lt.mpr (Nat.le_succ _))
  have af : After s H { s₂ with heap := (s₂.heap.push emptyDict).push (instObj C s₂.heap.objs.size), toks := s₂.toks + 1 } H :=
    (a2.trans fin).trans (After.upd (t := s₂.toks + 1) fin.sub (fun c o e => Heap.get?_push_of_some _ (Heap.get?_push_of_some _ e)))
  refine wpAny_call (ob_new X₂ Y ?_)
  refine q _ s₂.heap.objs.size _ af sz.2 sz.1 ?_ ?_
  · have := Heap.get?_push_size (h := s₂.heap.push emptyDict) (o := instObj C s₂.heap.objs.size) rfl
    rw [Heap.size_push] at this
    exact this
  · exact Heap.get?_push_of_some _ (Heap.get?_push_size _ rfl)
end Mine
end

/-! Bo3 -/
section
open PySem PySem.W PyProof.Rows PySem.Calls
set_option maxRecDepth 100000
namespace Mine
variable {prog : Program} {w : World} {h₁ : Heap} {n : Nat} {A : Around} {E : Value → Shared → Prop} {s s' : Shared} {H : PHeap} {K : Frag} {C p fnew finit fread fcheck x dx : Addr} {fd : FuncData} {b : List UInt8} {env : PySem.Env}

theorem init_body : ∃ p1 p2 p3 p4 p5 p6 p7 p8 q1 q2 q3 q4 q5 T B1, mBody "BytesIO" "__init__" = [stN "BytesIO" "__init__" 0,
    .Assign [.Attribute (.Name (nm "self") p1) (nm "_BytesIO__buf") p2] (.IfExp T B1 (.Call (.Name (nm "bytearray") p3) [.Name (nm "initial_bytes") p4] [] p5) p6) p7,
    .Assign [.Attribute (.Name (nm "self") q1) (nm "_BytesIO__pos") q2] (.Constant (.int 0) 0 q3) q4] ∧ p8 = p7 ∧ q5 = q4 ∧ (∀ (x : Addr) (b : List UInt8) (k : Bool → Option PV), (evN TI 16).tr (mSc "BytesIO" "__init__") T (rdA [(nm "self", .val (.raw (.ref x))), (nm "initial_bytes", .val (.bytes b))]) k = k false) :=
  ⟨_, _, _, _, _, _, _, _, _, _, _, _, _, _, _, by with_unfolding_all rfl, rfl, rfl, fun x b k => by kernel_rfl⟩
def itS (x : Addr) (b : List UInt8) : Vars := [(nm "self", .val (.raw (.ref x))), (nm "initial_bytes", .val (.bytes b))]
theorem it0 (x : Addr) (b : List UInt8) (k : KS) : exN TI (mSc "BytesIO" "__init__") 16 4000 8 (stN "BytesIO" "__init__" 0) (itS x b) k = k .next (itS x b) := by kernel_rfl
theorem IfExpC {M : Model} {test body orelse : Expr} {pos : Pos} {Q : Value → Shared → Prop}
    (h : wpAny M A (isTrue test env (eval test env)) (fun c s₁ => c = false ∧ wpC M A (eval orelse env) Q E s₁) E s) : wpC M A (eval (.IfExp test body orelse pos) env) Q E s := by
  rw [arm_eval_IfExp]
  refine wpC_bindA (wpAny_mono h (fun c s₁ h₁ => ?_) fun _ _ x => x)
  obtain ⟨rfl, h₁⟩ := h₁
  exact h₁
theorem init_call {t : Tok} {R : Result → Shared → Prop} (X : K.In h₁) (lim : h₁.NoLimit) (F : FnAt K finit (mPar "BytesIO" "__init__") (mBody "BytesIO" "__init__") (mSc "BytesIO" "__init__") fd)
    (hb : ∀ s : Shared, K.In s.heap → ∀ v1 v2, BindsTo s fd ⟨[v1, v2], []⟩ [(nm "self", v1), (nm "initial_bytes", v2)])
    (Y : BioK K C p fnew finit) (Z : ClsK K C fread fcheck) (TO : TblOk prog w h₁ n TI) (ga : GlobIs h₁ (nm "bytearray") (.type "bytearray")) (Rm : Room (n + 1) A) (g : Base h₁ H s) (hl : b.length ≤ 1000000)
    (hx : s.heap.get? x = some (instObj C dx)) (hdx : s.heap.get? dx = some emptyDict) (hH : H dx = none)
    (q : ∀ ba g₀ s', (∀ c, c ≠ dx → g₀.get? c = s.heap.get? c) → After { s with heap := g₀ } H s' H → StreamAt C s'.heap x dx ba b 0 → s.heap.get? ba = none → R (.ok (.ret .none)) s') :
    codeC (model prog w) A (.call (.ref finit) ⟨[.ref x, .bytes b.toArray t], []⟩) R s := by
  obtain ⟨o, ho, hod⟩ := F.get X
  have hs := F.scope
  refine codeC_open (n := n) (pb := [(nm "self", .raw (.ref x)), (nm "initial_bytes", .bytes b)]) (g.keep _ _ ho) hod (lim.keeps g.keep) ((codeRec_of X F.code).keeps g.keep) F.body F.clo F.glob F.blt (by rw [hs]; kernel_rfl)
    (hb s (X.keeps g.keep) _ _) (.cons (.raw _) (.cons (.bytes _ _) .nil)) Rm g fun env Mu s₁ ok R' fb => ?_
  rw [hs] at ok fb
  obtain ⟨p1, p2, p3, p4, p5, p6, p7, p8, q1, q2, q3, q4, q5, T, B1, e, _, _, hT⟩ := init_body
  rw [e]
  have SX : ∀ {s₀ H₀}, SndX prog w h₁ n (mSc "BytesIO" "__init__") env s₀ H₀ (exN TI (mSc "BytesIO" "__init__") 16 4000 8) := exN_sound TO ok 15 4000 8
  have EV : EvOk prog w h₁ n (evN TI 16) := evN_sound TO 16
  refine execs_consC (wpC_of (stmt_step SX R' (P := fun f σ' => f = .next ∧ σ' = itS x b) (fun k hk => ?_) fb (fun fl f σ' Mu₂ s₂ H₂ fb₂ st₂ m P => ?_) fun v p σ' s' H' _ _ P => nomatch P.1))
  · rw [show valsOf [(nm "self", .raw (.ref x)), (nm "initial_bytes", .bytes b)] = itS x b from rfl, it0]
    exact hk _ _ ⟨rfl, rfl⟩
  obtain ⟨rfl, rfl⟩ := P
  cases m
  have dxs : s.heap.get? dx ≠ none := by rw [hdx]; exact fun z => nomatch z
  have xne : x ≠ dx := fun z => by
    rw [z, hdx] at hx
    cases hx
  have hH₂ : ∀ {Mu' σ s' H'}, FB prog w h₁ Mu' (mSc "BytesIO" "__init__") env σ s H s' H' → H' dx = none := fun {Mu' σ s' H'} fb => by
    cases q : H' dx with
    | none => rfl
    | some o =>
      rcases fb.mid.fresh dx o q with z | z
      · rw [hH] at z; cases z
      · exact absurd z dxs
  have ga' : Keep h₁ s₂.heap := fb₂.base.keep
  refine execs_consC (Assign_AttributeC (IfExpC (test_step' (EV _ _ _ ok).2 R' (P := fun c => c = false) (fun k hk => by rw [show itS x b = [(nm "self", .val (.raw (.ref x))), (nm "initial_bytes", .val (.bytes b))] from rfl, hT]; exact hk _ rfl) fb₂.opens fun c s₃ H₃ a₃ hc => ⟨hc, ?_⟩)) (swaps_plain rfl _ _))
  have fb₃ := fb₂.forget a₃.same a₃.keep
  obtain ⟨vb, hvb, hrb⟩ := fb₃.read (y := nm "initial_bytes") (q := .bytes b) rfl
  cases hrb
  rename_i tb
  refine Call_NameC (name_glob ok (by kernel_rfl) (by unfold nameOk; decide) (ga.keeps fb₃.base.keep) ?_)
  refine callWith_ofC (P := fun _ => True) rfl (fun h _ => keeper_plain rfl h _) (Calls.evalArgs_plain (Calls.spliced_cons (name_read ok.kind hvb (Calls.spliced_nil ⟨trivial, ?_⟩))))
  refine ba_make hl fun h4 k4 hba => ?_
  have fb₄ := fb₃.forget (.upd s₃ h4 s₃.toks) k4
  have nma : ∀ {Mu' σ s' H'}, FB prog w h₁ Mu' (mSc "BytesIO" "__init__") env σ s H s' H' → ¬ Mu' dx := fun fb m => dxs (fb.fresh dx m)
  have hx₄ := fb₄.finish.keep _ _ hx
  have hd₄ := fb₄.finish.keep _ _ hdx
  have X₄ : K.In h4 := X.keeps fb₄.base.keep
  have hba0 : s.heap.get? s₃.heap.objs.size = none := by
    cases e : s.heap.get? s₃.heap.objs.size with
    | none => rfl
    | some o => exact absurd (Heap.lt_size (fb₃.finish.keep _ _ e)) (Nat.lt_irrefl _)
  have bne : s₃.heap.objs.size ≠ dx := fun z => by rw [z, hdx] at hba0; cases hba0
  obtain ⟨vs, hvs, hrs⟩ := fb₄.read (y := nm "self") (q := .raw (.ref x)) rfl
  cases hrs
  refine name_read ok.kind hvs (store_dict (es := []) (n := 0) X₄ ⟨hx₄, rfl, rfl, hd₄⟩ rfl Z.set Z.over Z.bufT Z.dict rfl (by show 1 ≤ 1000; decide) fun h5 ho5 hd5 => ?_)
  let nd1 : Obj := dictOf (putL "_BytesIO__buf" (PyData.keyHash w.params "_BytesIO__buf") (.str "_BytesIO__buf" (s₃.toks + 1)) (.ref s₃.heap.objs.size) []) (putN "_BytesIO__buf" [] 0)
  have hgx : (s.heap.update dx (fun _ => nd1)).get? dx = some nd1 := Heap.get?_update_self _ hdx rfl
  have hgo : ∀ c, c ≠ dx → (s.heap.update dx (fun _ => nd1)).get? c = s.heap.get? c := fun c hc => Heap.get?_update_ne _ _ _ _ hc
  have fb₅ := fb₄.poke (g₀ := s.heap.update dx (fun _ => nd1)) (h' := h5) (o' := nd1) (t := s₃.toks + 2) (nma fb₄) (hH₂ fb₄) (by rintro v ⟨o, z, hd⟩; rw [hd₄] at z; cases z; cases hd) hgo (fun o e => by rw [hgx] at e; cases e; rfl) ho5 hd5
  have X₅ : K.In h5 := X.keeps fb₅.base.keep
  obtain ⟨vt, hvt, hrt⟩ := fb₅.read (y := nm "self") (q := .raw (.ref x)) rfl
  cases hrt
  have fb₅' := fb₅.after (.tok (t := s₃.toks + 2 + 1) fb₅.base.sub)
  refine wpC_of (wpAny_execs_cons (plainObj_wpAny_Assign_Attribute (wpAny_Constant_int (name_read ok.kind hvt ?_)) (swaps_plain rfl _ _)))
  have hx5 : h5.get? x = some (instObj C dx) := (ho5 x xne).trans hx₄
  refine store_dict (es := putL "_BytesIO__buf" (PyData.keyHash w.params "_BytesIO__buf") (.str "_BytesIO__buf" (s₃.toks + 1)) (.ref s₃.heap.objs.size) []) (n := putN "_BytesIO__buf" [] 0) X₅ ⟨hx5, rfl, rfl, hd5⟩ rfl Z.set Z.over Z.posT Z.dict rfl (by show 2 ≤ 1000; decide) fun h6 ho6 hd6 => ?_
  let nd2 : Obj := dictOf (esOf (PyData.keyHash w.params "_BytesIO__buf") (PyData.keyHash w.params "_BytesIO__pos") (s₃.toks + 1) (s₃.toks + 2 + 1 + 1) (s₃.toks + 2) s₃.heap.objs.size 0) 2
  have hd6' : h6.get? dx = some nd2 := hd6
  have hgx2 : ((s.heap.update dx (fun _ => nd1)).update dx (fun _ => nd2)).get? dx = some nd2 := Heap.get?_update_self _ hgx rfl
  have hgo2 : ∀ c, c ≠ dx → ((s.heap.update dx (fun _ => nd1)).update dx (fun _ => nd2)).get? c = (s.heap.update dx (fun _ => nd1)).get? c := fun c hc => Heap.get?_update_ne _ _ _ _ hc
  have nm5 : ¬ _ := fun m => dxs (fb₄.fresh dx m)
  have hH5 := hH₂ fb₄
  have fb₆ := fb₅'.poke (g₀ := (s.heap.update dx (fun _ => nd1)).update dx (fun _ => nd2)) (h' := h6) (o' := nd2) (t := s₃.toks + 2 + 1 + 2) nm5 hH5 (by rintro v ⟨o, z, hd⟩; rw [show h5.get? dx = some nd1 from hd5] at z; cases z; cases hd) hgo2 (fun o e => by rw [hgx2] at e; cases e; rfl) ho6 hd6'
  refine wpAny_execs_nil ?_
  refine q s₃.heap.objs.size _ _ (fun c hc => (hgo2 c hc).trans (hgo c hc)) fb₆.finish.weak ⟨(ho6 x xne).trans hx5, ⟨_, _, _, _, _, hd6'⟩, ?_⟩ hba0
  exact (ho6 _ bne).trans ((ho5 _ bne).trans hba)
end Mine
end

/-! Bo4 -/
section
open PySem PySem.W PyProof.Rows PySem.Calls
set_option maxRecDepth 100000
namespace Mine
variable {prog : Program} {w : World} {h₁ : Heap} {n : Nat} {A : Around} {E : Value → Shared → Prop} {s s' : Shared} {H : PHeap} {K : Frag} {C p fnew finit fread fcheck x dx : Addr} {fd fd' : FuncData} {b : List UInt8} {env : PySem.Env}

/-- all that making a stream leans on -/
structure MakeK (prog : Program) (w : World) (h₁ : Heap) (K : Frag) (C p fnew finit fread fcheck : Addr) : Prop where
  X : K.In h₁
  lim : h₁.NoLimit
  new : ∃ fd, FnAt K fnew (mPar "IOBase" "__new__") (mBody "IOBase" "__new__") (mSc "IOBase" "__new__") fd ∧ fd.defaults = .none ∧ fd.kwdefaults = .none
  init : ∃ fd, FnAt K finit (mPar "BytesIO" "__init__") (mBody "BytesIO" "__init__") (mSc "BytesIO" "__init__") fd ∧ ∀ s : Shared, K.In s.heap → ∀ v1 v2, BindsTo s fd ⟨[v1, v2], []⟩ [(nm "self", v1), (nm "initial_bytes", v2)]
  bio : BioK K C p fnew finit
  cls : ClsK K C fread fcheck
  TC : ∀ n, TblOk prog w h₁ n (TC C)
  TI : ∀ n, TblOk prog w h₁ n TI
  obj : GlobIs h₁ (nm "object") (.type "object")
  ba : GlobIs h₁ (nm "bytearray") (.type "bytearray")
/-- BytesIO(octets) -/
theorem make_bio (M : MakeK prog w h₁ K C p fnew finit fread fcheck) {t : Tok} {Q : Value → Shared → Prop} (Rm : Room (n + 3) A) (g : Base h₁ H s) (hl : b.length ≤ 1000000)
    (q : ∀ x dx ba s', After s H s' H → StreamAt C s'.heap x dx ba b 0 → s.heap.get? x = none → s.heap.get? dx = none → s.heap.get? ba = none → Q (.ref x) s') :
    wpC (model prog w) A (call (.ref C) [.bytes b.toArray t]) Q E s := by
  have X := M.X.keeps g.keep
  obtain ⟨oc, od, cd, sl, hK, e1, e2, e4⟩ := objB_of M.bio.obj
  have hC := X _ _ hK
  have callL : Looks (model prog w) s.heap (specialOf (.ref C) "__call__") (some (.builtin "type.__call__")) := looks_specialIn X M.bio.call
  refine wpC_call (codeC_of_tree trivial (wpC_of ?_))
  show wpAny _ _ (callAny (.ref C) _) _ _ _
  refine nd_load hC ?_
  show wpAny _ _ (callAny.viaDunder (.ref C) _) _ _ _
  unfold callAny.viaDunder
  refine wpAny_bind (callL.here ?_)
  dsimp only
  rw [tc_bind]
  refine wpAny_bind (wpAny_pure (wpAny_bind (wpAny_pure ?_)))
  refine wpAny_pure (a := Fin.again (.call (.builtin "type.__call__") ⟨.ref C :: [.bytes b.toArray t], []⟩)) (And.intro rfl ?_)
  refine codeC_of_tree trivial (wpC_of ?_)
  show wpAny _ _ (do checkBuiltinCall "type.__call__" ⟨[.ref C, .bytes b.toArray t], []⟩; again (.builtin "type.__call__" ⟨[.ref C, .bytes b.toArray t], []⟩)) _ _ s
  refine wpAny_bind (check_slot tc_kind tc_split (looks_instIn X M.bio.typ) (tc_args _ _ _) (wpAny_pure ⟨Code.quiet_builtin _ (by decide +kernel), codeC_builtin (clean_of (by decide) (by decide)) entry_typeCall ?_⟩))
  generalize hA2 : A.under (Code.builtin "type.__call__" ⟨[.ref C, .bytes b.toArray t], []⟩) = A2
  have R2 : Room (n + 2) A2 := by
    rw [← hA2]
    have h1 := Rm.handled
    have h2 := Rm.depth
    have h3 := Rm.units
    refine ⟨h1, ?_, ?_⟩
    · show A.depth + 1 + (n + 2) ≤ 900; omega
    · show A.units + 1 + 8 * (n + 2) ≤ 9000; omega
  unfold Builtin.«type.__call__»
  dsimp only
  refine if_falseC rfl ?_
  have hm : Looks (model prog w) s.heap (mroOf (.ref C)) cd.mro := ((Looks.ld (part := none) hC).andThen .now).andThen .now
  refine wpC_bindA (hm.here ?_)
  rw [e4]
  refine if_falseC rfl ?_
  have mb : Looks (model prog w) s.heap (Bind.madeBy (.ref C)) none := Looks.of_peek X (M.bio.made _)
  refine wpC_bindA (mb.here ?_)
  dsimp only
  obtain ⟨fdn, Fn, hdn, hkn⟩ := M.new
  obtain ⟨fdi, Fi, hbi⟩ := M.init
  have gT : Base h₁ H { s with toks := s.toks + 1 } := g.after (.tok g.sub)
  refine wpC_bindA (cls_bind X M.bio.reads M.bio.newE (wpAny_call (sm_get (s := { s with toks := s.toks + 1 }) X M.bio.sm (handed_on rfl ?_))))
  refine wpC_bindA (wpAny_holding (new_call (n := n) M.X M.lim Fn hdn hkn M.bio (M.TC _) M.obj R2 gT fun x dx s2 a2 hx hdx ex ed => ?_))
  have g2 := gT.after a2
  have X2 := M.X.keeps g2.keep
  have hH : H dx = none := by
    cases e : H dx with
    | none => rfl
    | some o => rw [g.sub _ _ e] at hdx; cases hdx
  have T2 : Looks (model prog w) s2.heap (typeOf (.ref x)) (.ref C) := (Looks.ld (part := none) ex).andThen .now
  have I2 : Looks (model prog w) s2.heap (isInstance (.ref x) (.ref C)) true := T2.andThen (looks_mroIn X2 M.bio.self)
  refine wpC_bindA (I2.here ?_)
  refine if_falseC rfl ?_
  refine wpC_bindB (wpC_holding ?_)
  unfold callSpecial?
  have S2 : Looks (model prog w) s2.heap (specialOf (.ref x) "__init__") (some (.ref finit)) := T2.andThen (looks_findIn X2 M.bio.init)
  refine wpC_bindA (S2.here ?_)
  refine wpC_holding ?_
  refine wpC_bindA ((bind_fn X2 _ M.bio.initF).here ?_)
  refine wpC_bindB (wpC_call (init_call (n := n + 1) M.X M.lim Fi hbi M.bio M.cls (M.TI _) M.ba R2 g2 hl ex ed hH fun ba g₀ s3 ho a3 St hba => ?_))
  refine wpAny_pure ?_
  dsimp only
  refine PySem.bm_if_false rfl ?_
  refine wpAny_pure (q x dx ba s3 ?_ St hx hdx ?_)
  · refine ⟨⟨a3.same.1.trans a2.same.1, fun e => a3.same.2.1 (a2.same.2.1 e), Nat.le_trans a2.same.2.2 a3.same.2.2⟩, fun c o e => ?_, a3.sub, fun _ _ e => e, fun _ _ e => .inl e⟩
    have cne : c ≠ dx := fun z => by rw [z, show s.heap.get? dx = none from hdx] at e; cases e
    exact a3.keep c o ((ho c cne).trans (a2.keep c o e))
  · cases e : s.heap.get? ba with
    | none => rfl
    | some o => rw [a2.keep _ _ e] at hba; cases hba
end Mine
end

/-! Bo5 -/
section
open PySem PySem.W PyProof.Rows PySem.Calls
set_option maxRecDepth 100000
namespace Mine
variable {prog : Program} {w : World} {h₁ : Heap} {n : Nat} {A : Around} {E : Value → Shared → Prop} {s s' : Shared} {H : PHeap} {K : Frag} {C p fnew finit fread fcheck x dx : Addr} {fd fd' : FuncData} {b : List UInt8} {env : PySem.Env}

theorem bytes_b : typeLookup (.type "bytes") "__bytes__" = pure (some (.builtin "bytes.__bytes__")) := by rw [typeLookup_type, builtinLookup_eq_fast]; kernel_rfl
theorem bb_new {t : Tok} {Q : Value → Shared → Prop} (hQ : Q (.bytes b.toArray t) s) :
    codeAny (model prog w) A (.call (.builtin "bytes.__new__") ⟨[.type "bytes", .bytes b.toArray t], []⟩) (wants Q E) s := by
  refine codeAny_of_tree ?_
  show wpAny _ A.in1 (do checkBuiltinCall "bytes.__new__" ⟨[.type "bytes", .bytes b.toArray t], []⟩; again (.builtin "bytes.__new__" ⟨[.type "bytes", .bytes b.toArray t], []⟩)) _ _ s
  refine wpAny_bind (wpAny_of_eq (PySem.F.bm_newCall _) (wpAny_pure ⟨plainId_quiet PySem.F.bm_plain _, codeAny_builtin PySem.F.bm_entry ?_⟩))
  rw [Around.under_plainId PySem.F.bm_plain _]
  have hT := PySem.W.typeIs_bytes s b.toArray t
  unfold Builtin.«bytes.__new__»
  refine wpAny_bind (wpAny_of_eq (a := true) rfl ?_)
  refine PySem.bm_if_false rfl ?_
  refine wpAny_bind (wpAny_of_eq PySem.F.bm_sub ?_)
  refine PySem.bm_if_false rfl ?_
  refine wpAny_bind (wpAny_of_eq (PySem.F.bm_bind _) ?_)
  refine wpAny_bind (wpAny_of_eq (a := ()) rfl ?_)
  refine wpAny_bind (wpAny_of_eq (a := ()) rfl ?_)
  refine PySem.bm_if_false rfl ?_
  refine wpAny_bind (wpAny_specialOf hT bytes_b ?_)
  dsimp only
  refine wpAny_bind (wpAny_rule (wpAny_bind (wpAny_typeOf hT ?_)))
  refine PySem.bm_if_true (by decide) ?_
  exact wpAny_of_eq (a := PySem.Fin.done (.ret (.bytes b.toArray t))) rfl hQ
theorem bb_call {t : Tok} {Q : Value → Shared → Prop} (hQ : Q (.bytes b.toArray t) s) : wpAny (model prog w) A (call (.type "bytes") [.bytes b.toArray t]) Q E s := by
  refine callType_codes (Q₁ := fun obj s₁ => s₁.TypeIs obj "bytes" ∧ Q obj s₁) PySem.F.bm_called (PySem.F.bm_typeCall _) PySem.F.entry_object_init
    (bb_new ⟨PySem.W.typeIs_bytes _ _ _, hQ⟩) fun obj s₁ h₁ => ?_
  exact ⟨h₁.1, PySem.F.args_object_init_2 obj _, object_init_meets PySem.F.bm_called.init.lookup PySem.F.bm_called.made (by decide) prog w A.in1 _ s₁ ⟨h₁.1, rfl, h₁.2⟩⟩
def bbF : Fun := fun as ks k => match as, ks with
  | [.bytes b], [] => k (.bytes b)
  | _, _ => none
theorem bb_ok : FunOk prog w h₁ n (.type "bytes") bbF := by
  refine fun_plain rfl fun A E Q s H args kws ps ks k r R hs ha hk e N => ?_
  unfold bbF at e
  split at e
  · cases hk
    cases ha with
    | cons hv ht =>
      cases ht
      cases hv with
      | bytes b t => exact bb_call (N _ _ s H (.refl hs) (.bytes _ t) e)
  · cases e
def TB : Tbl := tb [(nm "bytes", bbF)]
theorem bfo_run (b : List UInt8) : runF TB "bytes_from_octets" [.bytes b, .none] = some (.bytes b) := by kernel_rfl
theorem bfo_args : argsOf "bytes_from_octets" = [nm "octets", nm "out_size"] := by kernel_rfl
/-- bytes_from_octets on octets -/
theorem bfo_call {fa : Addr} {t : Tok} {Q : Value → Shared → Prop} (X : K.In h₁) (lim : h₁.NoLimit) (F : FnAt K fa (parOf "bytes_from_octets") (bodyOf "bytes_from_octets") (scOf "bytes_from_octets") fd)
    (hb : ∀ s : Shared, K.In s.heap → ∀ v, BindsTo s fd ⟨[v], []⟩ [(nm "octets", v), (nm "out_size", .none)]) (TO : TblOk prog w h₁ n TB) (R : Room (n + 1) A) (g : Base h₁ H s)
    (q : ∀ t' s', After s H s' H → Q (.bytes b.toArray t') s') : wpAny (model prog w) A (call (.ref fa) [.bytes b.toArray t]) Q E s := by
  obtain ⟨o, ho, hod⟩ := F.get X
  have hs := F.scope
  refine wpAny_call (code_run (pb := [(nm "octets", .bytes b), (nm "out_size", .none)]) TO (g.keep _ _ ho) hod (lim.keeps g.keep) ((codeRec_of X F.code).keeps g.keep) F.body F.clo F.glob F.blt (by rw [hs]; kernel_rfl)
    (hb s (X.keeps g.keep) _) (.cons (.bytes _ _) (.cons .none .nil)) (p := .bytes b) ?_ R g fun v s' H' a hv => ?_)
  · rw [hs]
    have := bfo_run b
    unfold runF at this
    rw [bfo_args] at this
    exact this
  · cases hv
    exact q _ s' a.weak
theorem bio_body : ∃ p1 p2 p3 p4 p5 p6 p7 p8 q1 q2 q3 q4 q5 q6 B, bodyOf "bytesio_from_binarydata" = [.If (.Call (.Name (nm "isinstance") p1) [.Name (nm "stream") p2, .Name (nm "BytesIO") p3] [] p4) B [] p5,
    .Return (some (.Call (.Name (nm "BytesIO") q1) [.Call (.Name (nm "bytes_from_octets") q2) [.Name (nm "stream") q3] [] q4] [] q5)) q6] ∧ p6 = p5 ∧ p7 = p5 ∧ p8 = p5 := ⟨_, _, _, _, _, _, _, _, _, _, _, _, _, _, _, by with_unfolding_all rfl, rfl, rfl, rfl⟩
end Mine
end

/-! Bo6 -/
section
open PySem PySem.W PyProof.Rows PySem.Calls
set_option maxRecDepth 100000
namespace Mine
variable {prog : Program} {w : World} {h₁ : Heap} {n : Nat} {A : Around} {E : Value → Shared → Prop} {s s' : Shared} {H : PHeap} {K : Frag} {C p fnew finit fread fcheck x dx : Addr} {fd fd' : FuncData} {b : List UInt8} {env : PySem.Env}

theorem keepIn_cls (e : objB K C = true) (c : specialIn K (.ref C) "__call__" = some (some (.builtin "type.__call__"))) : keepIn K (.ref C) = true := by
  obtain ⟨oc, od, cd, sl, q, _⟩ := objB_of e
  unfold keepIn
  dsimp only
  rw [q]
  dsimp only
  rw [c]
  decide
/-- what a stream out of octets leans on -/
structure OpenK' (prog : Program) (w : World) (h₁ : Heap) (K : Frag) (C p fnew finit fread fcheck : Addr) : Prop extends MakeK prog w h₁ K C p fnew finit fread fcheck where
  isi : kitOne K (.type "bytes") (.ref C) = some false
  gisi : GlobIs h₁ (nm "isinstance") (.builtin "isinstance")
  gC : GlobIs h₁ (nm "BytesIO") (.ref C)
  bfo : ∃ fa fd, GlobIs h₁ (nm "bytes_from_octets") (.ref fa) ∧ FnAt K fa (parOf "bytes_from_octets") (bodyOf "bytes_from_octets") (scOf "bytes_from_octets") fd ∧ ∀ s : Shared, K.In s.heap → ∀ v, BindsTo s fd ⟨[v], []⟩ [(nm "octets", v), (nm "out_size", .none)]
  TB : ∀ n, TblOk prog w h₁ n TB
theorem bio_call (M : OpenK' prog w h₁ K C p fnew finit fread fcheck) {fa : Addr} (F : FnAt K fa (parOf "bytesio_from_binarydata") (bodyOf "bytesio_from_binarydata") (scOf "bytesio_from_binarydata") fd) (hd : fd.defaults = .none) (hk : fd.kwdefaults = .none)
    {t : Tok} {Q : Value → Shared → Prop} (Rm : Room (n + 4) A) (g : Base h₁ H s) (hl : b.length ≤ 1000000)
    (q : ∀ x dx ba s', After s H s' H → StreamAt C s'.heap x dx ba b 0 → s.heap.get? x = none → s.heap.get? dx = none → s.heap.get? ba = none → Q (.ref x) s') :
    wpC (model prog w) A (call (.ref fa) [.bytes b.toArray t]) Q E s := by
  obtain ⟨o, ho, hod⟩ := F.get M.X
  have hs := F.scope
  have bind : BindsTo s fd ⟨[.bytes b.toArray t], []⟩ [(nm "stream", .bytes b.toArray t)] := by
    refine .of_eq ?_
    have h1 := F.params
    obtain ⟨⟩ := fd
    dsimp only at h1 hd hk
    subst h1 hd hk
    kernel_rfl
  refine wpC_call (codeC_open (n := n + 3) (pb := [(nm "stream", .bytes b)]) (g.keep _ _ ho) hod (M.lim.keeps g.keep) ((codeRec_of M.X F.code).keeps g.keep) F.body F.clo F.glob F.blt (by rw [hs]; kernel_rfl)
    bind (.cons (.bytes _ _) .nil) Rm g fun env Mu s₁ ok R' fb => ?_)
  rw [hs] at ok fb
  obtain ⟨p1, p2, p3, p4, p5, p6, p7, p8, q1, q2, q3, q4, q5, q6, B, e, _⟩ := bio_body
  rw [e]
  obtain ⟨v, hv, hr⟩ := fb.read (y := nm "stream") (q := .bytes b) rfl
  cases hr
  rename_i tv
  have X₁ : K.In s₁.heap := M.X.keeps fb.base.keep
  refine execs_consC (wpC_of (wpAny_If ?_))
  refine wpAny_isTrue_value (wpAny_Call_Name_kw (name_glob ok (by kernel_rfl) (by unfold nameOk; decide) (M.gisi.keeps fb.base.keep) ?_)) rfl
  refine Calls.callWith_builtin rfl (Calls.evalArgs_plain (Calls.spliced_cons (name_read ok.kind hv (Calls.spliced_cons (name_glob ok (by kernel_rfl) (by unfold nameOk; decide) (M.gC.keeps fb.base.keep) (Calls.spliced_nil ?_))))))
  refine kia_one kitx_bytes X₁ trivial M.isi (by intro e; cases e) fun tk => ?_
  refine wpAny_truthy_bool ?_
  refine wpAny_execs_nil ?_
  have fb₂ := fb.after (.tok (t := tk) fb.base.sub)
  obtain ⟨fb', fdb, gfb, Fb, hbb⟩ := M.bfo
  refine execs_consC (Return_someC (Call_NameC (name_glob ok (by kernel_rfl) (by unfold nameOk; decide) (M.gC.keeps fb₂.base.keep) ?_)))
  refine callWith_ofC (P := K.In) rfl (keeps_K (keepIn_cls M.bio.obj M.bio.call)) (Calls.evalArgs_plain (Calls.spliced_cons (wpAny_Call_Name_kw (name_glob ok (by kernel_rfl) (by unfold nameOk; decide) (gfb.keeps fb₂.base.keep) ?_))))
  refine callWith_of (P := K.In) rfl (keeps_K (keepIn_of Fb)) (Calls.evalArgs_plain (Calls.spliced_cons (name_read ok.kind hv (Calls.spliced_nil ⟨X₁, ?_⟩))))
  refine bfo_call (n := n + 2) M.X M.lim Fb hbb (M.TB _) R' fb₂.base fun t' s₃ a₃ => Calls.spliced_nil ⟨(M.X.keeps fb₂.base.keep).keeps a₃.keep, ?_⟩
  have fb₃ := fb₂.after a₃
  have k3 := fb₃.finish.keep
  have nn : ∀ {c : Addr}, s₃.heap.get? c = none → s.heap.get? c = none := fun {c} e => by
    cases z : s.heap.get? c with
    | none => rfl
    | some o => rw [k3 _ _ z] at e; cases e
  refine make_bio (n := n) M.toMakeK R' fb₃.base hl fun x dx ba s₄ a₄ S hx hdx hba => ?_
  exact q x dx ba s₄ (fb₃.after a₄).finish.weak S (nn hx) (nn hdx) (nn hba)
end Mine
end

/-! Pa1 -/
section
open PySem PySem.W PyProof.Rows PySem.Calls
set_option maxRecDepth 100000
namespace Mine

def stW (f : String) (i : Nat) : Stmt := (whB f).getD i (.Pass ⟨0, 0, 0, 0⟩)
def ifE (st : Stmt) : List Stmt := match st with | .If _ _ e _ => e | _ => []
theorem parse_body : ∃ p1 p2 p3 p4 p5 p6 p7 p8 q1 q2 q3 q4 q5, bodyOf "parse" = [.Assign [.Name (nm "s") p1] (.Call (.Name (nm "bytesio_from_binarydata") p2) [.Name (nm "stream") p3] [] p4) p5, .Assign [.Name (nm "r") p6] (.List [] p7) p8,
   .While (.Constant (.bool true) 0 q1) (whB "parse") [] q2, .Return (some (.Name (nm "r") q3)) q4] ∧ q5 = q4 :=
  ⟨_, _, _, _, _, _, _, _, _, _, _, _, _, by with_unfolding_all rfl, rfl⟩
theorem parse_loop : ∃ p1 p2 p3 p4 p5 p6 p7 p8 q1 q2 q3 q4 q5, whB "parse" = [.Assign [.Name (nm "t") p1] (.Call (.Attribute (.Name (nm "s") p2) (nm "read") p3) [.Constant (.int 1) 0 p4] [] p5) p6, stW "parse" 1, stW "parse" 2,
   .If (ifT (stW "parse" 3)) [.Assign [.Name (nm "data") q1] (.Call (.Name (nm "_parse_push") q2) [.Name (nm "s") q3, .Name (nm "i") q4] [] q5) p7, ifB (stW "parse" 3) 1, ifB (stW "parse" 3) 2] (ifE (stW "parse" 3)) p8, stW "parse" 4] ∧ p3.endLine = p5.line :=
  ⟨_, _, _, _, _, _, _, _, _, _, _, _, _, by with_unfolding_all rfl, by with_unfolding_all rfl⟩
abbrev exP : Stmt → Vars → KS → Option PV := exN base (scOf "parse") 16 4000 8
def paS (b : List UInt8) (x : Addr) (l : List PV) (r : Vars) : Vars := (nm "stream", .val (.bytes b)) :: (nm "s", .val (.raw (.ref x))) :: (nm "r", .own l) :: r
theorem pa1_nil (b : List UInt8) (x : Addr) (l : List PV) (k : KS) : exP (stW "parse" 1) (paS b x l [(nm "t", .val (.bytes []))]) k = k .brk (paS b x l [(nm "t", .val (.bytes []))]) := by kernel_rfl
theorem pa1 (b : List UInt8) (x : Addr) (l : List PV) (u : UInt8) (k : KS) : exP (stW "parse" 1) (paS b x l [(nm "t", .val (.bytes [u]))]) k = k .next (paS b x l [(nm "t", .val (.bytes [u]))]) := by kernel_rfl
def paS2 (b : List UInt8) (x : Addr) (l : List PV) (u : UInt8) (r : Vars) : Vars := paS b x l ((nm "t", .val (.bytes [u])) :: (nm "i", .val (.int u.toNat)) :: r)
theorem pa2 (b : List UInt8) (x : Addr) (l : List PV) (u : UInt8) (k : KS) : exP (stW "parse" 2) (paS b x l [(nm "t", .val (.bytes [u]))]) k = k .next (paS2 b x l u []) := by kernel_rfl
theorem pa3T (b : List UInt8) (x : Addr) (l : List PV) (u : UInt8) (k : Bool → Option PV) : (evN base 16).tr (scOf "parse") (ifT (stW "parse" 3)) (rdA (paS2 b x l u [])) k = bif decide ((0 : Int) < (u.toNat : Int)) then k (decide ((u.toNat : Int) ≤ 78)) else k false := by kernel_rfl
theorem pa3b_none (b : List UInt8) (x : Addr) (l : List PV) (u : UInt8) (k : KS) : exP (ifB (stW "parse" 3) 1) (paS2 b x l u [(nm "data", .val .none)]) k = gate (lenOk l.length) (k .brk (paS2 b x (l ++ [.str (nm "[error]")]) u [(nm "data", .val .none)])) := by kernel_rfl
theorem pa3b_str (b : List UInt8) (x : Addr) (l : List PV) (u : UInt8) (d : Str) (k : KS) : exP (ifB (stW "parse" 3) 1) (paS2 b x l u [(nm "data", .val (.str d))]) k = k .next (paS2 b x l u [(nm "data", .val (.str d))]) := by kernel_rfl
theorem pa3c (b : List UInt8) (x : Addr) (l : List PV) (u : UInt8) (d : Str) (k : KS) : exP (ifB (stW "parse" 3) 2) (paS2 b x l u [(nm "data", .val (.str d))]) k = gate (lenOk d.length) (bif decide (d.length ≠ 0) then k .next (paS2 b x l u [(nm "data", .val (.str d)), (nm "command", .val (.str d))]) else k .next (paS2 b x l u [(nm "data", .val (.str d)), (nm "command", .val (.str (nm "OP_0")))])) := by kernel_rfl
theorem pa3e (b : List UInt8) (x : Addr) (l : List PV) (u : UInt8) (k : KS) : exList exP (ifE (stW "parse" 3)) (paS2 b x l u []) k = bif (opName.lookup (u.toNat : Int)).isSome then (match opName.lookup (u.toNat : Int) with
   | some y => k .next (paS2 b x l u [(nm "command", .val (.str y))])
   | none => none) else gate (small u.toNat) (gate (lenOk ((Str.empty ++ nm "UNKNOWN_OP_CODE_").length + (Str.ofString (toString (u.toNat : Int))).length)) (k .next (paS2 b x l u [(nm "command", .val (.str ((Str.empty ++ nm "UNKNOWN_OP_CODE_") ++ Str.ofString (toString (u.toNat : Int)))))]))) := by kernel_rfl
theorem pa4a (b : List UInt8) (x : Addr) (l : List PV) (u : UInt8) (c : Str) (k : KS) : exP (stW "parse" 4) (paS2 b x l u [(nm "command", .val (.str c))]) k = gate (lenOk l.length) (k .next (paS2 b x (l ++ [.str c]) u [(nm "command", .val (.str c))])) := by kernel_rfl
theorem pa4b (b : List UInt8) (x : Addr) (l : List PV) (u : UInt8) (c d : Str) (k : KS) : exP (stW "parse" 4) (paS2 b x l u [(nm "data", .val (.str d)), (nm "command", .val (.str c))]) k = gate (lenOk l.length) (k .next (paS2 b x (l ++ [.str c]) u [(nm "data", .val (.str d)), (nm "command", .val (.str c))])) := by kernel_rfl
theorem paR (b : List UInt8) (x : Addr) (l : List PV) (k : KS) : exP ((bodyOf "parse").getD 3 (.Pass ⟨0, 0, 0, 0⟩)) (paS b x l []) k = k (.ret (.lst l)) (paS b x l []) := by kernel_rfl
end Mine
end

/-! Pa2 -/
section
open PySem PySem.W PyProof.Rows PySem.Calls
set_option maxRecDepth 100000
namespace Mine
variable {prog : Program} {w : World} {h₁ : Heap} {n : Nat} {A : Around} {E : Value → Shared → Prop} {s s' : Shared} {H H' : PHeap} {K : Frag} {C fread fcheck x dx ba : Addr} {fd fd' : FuncData} {b : List UInt8} {env : PySem.Env} {Mu : Addr → Prop} {sc : Scope} {σ σ' : Vars} {s₀ : Shared} {H₀ : PHeap}

theorem FB.weaken (fb : FB prog w h₁ Mu sc env σ s₀ H₀ s H) (h : ∀ y q, lookV σ' y = some q → lookV σ y = some q) : FB prog w h₁ Mu sc env σ' s₀ H₀ s H :=
  ⟨⟨fb.base₀, fb.mid, fb.fm, ⟨fun y q e => fb.vars.val y q (h _ _ e), fun y l e => fb.vars.own y l (h _ _ e), fun y z l m a e f => fb.vars.apart y z l m a (h _ _ e) (h _ _ f)⟩⟩, fb.fresh⟩
def unkS (v : Nat) : Str := (Str.empty ++ nm "UNKNOWN_OP_CODE_") ++ Str.ofString (toString (v : Int))
def opS (v : Nat) : Str := match opName.lookup (v : Int) with | some y => y | none => unkS v
/-- a word as parse names it -/
def cmdS (v : Nat) : Option (List UInt8) → Str
  | none => opS v
  | some c => if (upS (hexS c)).length ≠ 0 then upS (hexS c) else nm "OP_0"
def tailS (b : List UInt8) (m p : Nat) : List PV := (walk b m p).1.map (fun it => .str (cmdS it.1 it.2.1)) ++ (if (walk b m p).2.2 then [.str (nm "[error]")] else [])
theorem op_pp (b : List UInt8) (p : Nat) (h0 : 0 < (b.getD p 0).toNat) (h1 : (b.getD p 0).toNat ≤ 78) :
    (opAt b p = none ∧ (ppV b (p + 1) (b.getD p 0).toNat).1 = .none) ∨ ∃ c e, opAt b p = some ((b.getD p 0).toNat, some c, e) ∧ ppV b (p + 1) (b.getD p 0).toNat = (.str (upS (hexS c)), e) := by
  unfold opAt ppV ppSec
  dsimp only
  rw [if_neg (by omega)]
  by_cases c1 : 75 < (b.getD p 0).toNat
  · rw [if_pos c1, if_pos c1]
    by_cases c2 : p + 1 + 2 ^ ((b.getD p 0).toNat - 76) ≤ b.length
    · rw [if_neg (by omega), if_pos c2]
      by_cases c3 : p + 1 + 2 ^ ((b.getD p 0).toNat - 76) + leV (sl b (p + 1) (2 ^ ((b.getD p 0).toNat - 76))) ≤ b.length
      · rw [if_pos c3, if_pos c3]; exact .inr ⟨_, _, rfl, rfl⟩
      · rw [if_neg c3, if_neg c3]; exact .inl ⟨rfl, rfl⟩
    · rw [if_pos (by omega), if_neg c2]; exact .inl ⟨rfl, rfl⟩
  · rw [if_neg c1, if_neg c1]
    by_cases c3 : p + 1 + (b.getD p 0).toNat ≤ b.length
    · rw [if_pos c3, if_pos c3]; exact .inr ⟨_, _, rfl, rfl⟩
    · rw [if_neg c3, if_neg c3]; exact .inl ⟨rfl, rfl⟩
theorem op_none' (b : List UInt8) (p : Nat) (h : (b.getD p 0).toNat = 0 ∨ 78 < (b.getD p 0).toNat) : opAt b p = some ((b.getD p 0).toNat, none, p + 1) := by
  unfold opAt
  dsimp only
  rw [if_pos h]
theorem tail_end {b : List UInt8} {m p : Nat} (h : b.length ≤ p) : tailS b m p = [] := by
  unfold tailS
  cases m with
  | zero => rfl
  | succ m => unfold walk; rw [if_neg (by omega)]; rfl
theorem tail_err {b : List UInt8} {m p : Nat} (h : p < b.length) (e : opAt b p = none) : tailS b (m + 1) p = [.str (nm "[error]")] := by
  unfold tailS walk
  rw [if_pos h, e]
  rfl
theorem tail_cons {b : List UInt8} {m p v e : Nat} {c : Option (List UInt8)} (h : p < b.length) (o : opAt b p = some (v, c, e)) : tailS b (m + 1) p = .str (cmdS v c) :: tailS b m e := by
  unfold tailS
  rw [show walk b (m + 1) p = ((v, c, p, e) :: (walk b m e).1, (walk b m e).2) by rw [walk, if_pos h, o]]
  rfl
theorem take1 {b : List UInt8} {p : Nat} (h : p < b.length) : (b.drop p).take 1 = [b.getD p 0] := by
  rw [List.drop_eq_getElem_cons h, List.take_succ_cons, List.take_zero, List.getD_eq_getElem?_getD, List.getElem?_eq_getElem h]
  rfl
/-- the stream's state in a frame -/
structure FS (prog : Program) (w : World) (h₁ : Heap) (C x dx ba : Addr) (b : List UInt8) (p : Nat) (Mu : Addr → Prop) (sc : Scope) (env : PySem.Env) (σ : Vars) (s₀ : Shared) (H₀ : PHeap) (s : Shared) (H : PHeap) : Prop where
  fb : FB prog w h₁ Mu sc env σ s₀ H₀ s H
  st : StreamAt C s.heap x dx ba b p
  off : Off Mu x dx ba
  hid : H dx = none
theorem FS.step {p : Nat} {Mu' : Addr → Prop} (f : FS prog w h₁ C x dx ba b p Mu sc env σ s₀ H₀ s H) (fb : FB prog w h₁ Mu' sc env σ' s₀ H₀ s' H') (st : Step Mu s H Mu' s' H') : FS prog w h₁ C x dx ba b p Mu' sc env σ' s₀ H₀ s' H' :=
  ⟨fb, f.st.step f.off st, f.off.step f.st st, step_none f.hid f.st.there st⟩
theorem FS.weaken {p : Nat} (f : FS prog w h₁ C x dx ba b p Mu sc env σ s₀ H₀ s H) (h : ∀ y q, lookV σ' y = some q → lookV σ y = some q) : FS prog w h₁ C x dx ba b p Mu sc env σ' s₀ H₀ s H := ⟨f.fb.weaken h, f.st, f.off, f.hid⟩
theorem paS_weak (b : List UInt8) (x : Addr) (l : List PV) (r : Vars) : ∀ y q, lookV (paS b x l []) y = some q → lookV (paS b x l r) y = some q := by
  intro y q h
  unfold paS at h ⊢
  simp only [lookV] at h ⊢
  revert h
  cases decide (nm "stream" = y) <;> cases decide (nm "s" = y) <;> cases decide (nm "r" = y) <;> simp
end Mine
end

/-! Hx1 -/
section
open PySem PySem.W
set_option maxRecDepth 100000
namespace Mine
def hexW (n : Nat) : Nat := if n < 10 then 48 + n else 55 + n
def hexUL : List UInt8 → List Nat
  | [] => []
  | c :: l => hexW (c.toNat / 16) :: hexW (c.toNat % 16) :: hexUL l
theorem up_digit : ∀ n, n < 16 → Unicode.upperOf (hexD n) = [hexW n] := by
  intro n h
  have : n = 0 ∨ n = 1 ∨ n = 2 ∨ n = 3 ∨ n = 4 ∨ n = 5 ∨ n = 6 ∨ n = 7 ∨ n = 8 ∨ n = 9 ∨ n = 10 ∨ n = 11 ∨ n = 12 ∨ n = 13 ∨ n = 14 ∨ n = 15 := by omega
  rcases this with h | h | h | h | h | h | h | h | h | h | h | h | h | h | h | h <;> subst h <;> kernel_rfl
theorem mapIdx_const {α β : Type} (g : α → β) : ∀ l : List α, l.mapIdx (fun _ c => g c) = l.map g
  | [] => rfl
  | x :: l => by rw [List.mapIdx_cons, List.map_cons]; congr 1; exact mapIdx_const g l
theorem placed_list (g : Nat → List Nat) (l : List Nat) : placed ⟨l.toArray⟩ (fun _ c => g c) = (l.flatMap g).toArray := by
  unfold placed
  show (l.toArray.mapIdx fun _ c => (g c).toArray).flatten = _
  rw [List.mapIdx_toArray, mapIdx_const]
  apply Array.toList_inj.mp
  simp [List.flatMap]
  rfl
theorem hexUL_len : ∀ b : List UInt8, (hexUL b).length = 2 * b.length
  | [] => rfl
  | _ :: b => by simp [hexUL, hexUL_len b]; omega
theorem up_hexL : ∀ b : List UInt8, (hexL b).flatMap Unicode.upperOf = hexUL b
  | [] => rfl
  | c :: l => by
    have h := c.toNat_lt
    unfold hexL hexUL
    rw [List.flatMap_cons, List.flatMap_cons, up_digit _ (by omega), up_digit _ (by omega), up_hexL l]
    rfl
theorem upS_hexS (b : List UInt8) : upS (hexS b) = ⟨(hexUL b).toArray⟩ := by
  show (⟨placed (hexS b) fun _ c => Unicode.upperOf c⟩ : Str) = _
  unfold hexS
  rw [placed_list, up_hexL]
theorem upS_hexS_len (b : List UInt8) : (upS (hexS b)).length = 2 * b.length := by
  rw [upS_hexS]
  show (hexUL b).toArray.size = _
  rw [List.size_toArray, hexUL_len]
theorem toS_len (v : Nat) (h : v < 256) : (Str.ofString (toString (v : Int))).length ≤ 3 := by
  have : ∀ v : Fin 256, (Str.ofString (toString ((v.val : Nat) : Int))).length ≤ 3 := by decide +kernel
  exact this ⟨v, h⟩
end Mine
end

/-! Pa3 -/
section
open PySem PySem.W PyProof.Rows PySem.Calls
set_option maxRecDepth 100000
namespace Mine
variable {prog : Program} {w : World} {h₁ : Heap} {n : Nat} {A : Around} {E : Value → Shared → Prop} {s s' : Shared} {H H' : PHeap} {K : Frag} {C fread fcheck x dx ba : Addr} {fd fd' : FuncData} {b : List UInt8} {env : PySem.Env} {Mu : Addr → Prop} {sc : Scope} {σ σ' : Vars} {s₀ : Shared} {H₀ : PHeap}

/-- what parse's loop leans on -/
structure LoopK (prog : Program) (w : World) (h₁ : Heap) (K : Frag) (C fread fcheck : Addr) : Prop extends StrK prog w h₁ K C fread fcheck where
  push : ∃ fa fd, GlobIs h₁ (nm "_parse_push") (.ref fa) ∧ FnAt K fa (parOf "_parse_push") (bodyOf "_parse_push") (scOf "_parse_push") fd ∧ fd.defaults = .none ∧ fd.kwdefaults = .none
  base : ∀ n, TblOk prog w h₁ n Mine.base
/-- a turn's ends -/
structure TurnQ (prog : Program) (w : World) (h₁ : Heap) (C x dx ba : Addr) (b : List UInt8) (p : Nat) (l : List PV) (env : PySem.Env) (s₀ : Shared) (H₀ : PHeap) (Q : Flow → Shared → Prop) : Prop where
  stop : ∀ Mu' s' H', (p = b.length ∨ b.length ≤ p) → FB prog w h₁ Mu' (scOf "parse") env (paS b x l []) s₀ H₀ s' H' → Q .brk s'
  err : ∀ Mu' s' H', p < b.length → opAt b p = none → FB prog w h₁ Mu' (scOf "parse") env (paS b x (l ++ [.str (nm "[error]")]) []) s₀ H₀ s' H' → Q .brk s'
  on : ∀ Mu' s' H' v c e, p < b.length → opAt b p = some (v, c, e) → FS prog w h₁ C x dx ba b e Mu' (scOf "parse") env (paS b x (l ++ [.str (cmdS v c)]) []) s₀ H₀ s' H' → Q .next s'
theorem opAt_some_len {p v e : Nat} {c : List UInt8} (h : opAt b p = some (v, some c, e)) : c.length ≤ b.length := by
  have sl_le : ∀ i m, (sl b i m).length ≤ b.length := fun i m => by rw [sl_len_min]; omega
  unfold opAt at h
  dsimp only at h
  split at h
  · cases h
  · split at h
    · split at h
      · cases h
      · split at h
        · cases h; exact sl_le _ _
        · cases h
    · split at h
      · cases h; exact sl_le _ _
      · cases h
theorem parse_turn (Z : LoopK prog w h₁ K C fread fcheck) (ok : EnvOk (scOf "parse") env) {p : Nat} {l : List PV} {Q : Flow → Shared → Prop} (f : FS prog w h₁ C x dx ba b p Mu (scOf "parse") env (paS b x l []) s₀ H₀ s H)
    (hs₀ : s₀.heap.get? dx = none) (R : Room (n + 4) A) (hl : b.length ≤ 100000) (hp : p ≤ b.length) (hll : l.length ≤ 900000) (T : TurnQ prog w h₁ C x dx ba b p l env s₀ H₀ Q) :
    wpAny (model prog w) A (execs (whB "parse") env) Q E s := by
  obtain ⟨p1, p2, p3, p4, p5, p6, p7, p8, q1, q2, q3, q4, q5, e, ep⟩ := parse_loop
  rw [e]
  have SX : ∀ {s₀ H₀}, SndX prog w h₁ (n + 4) (scOf "parse") env s₀ H₀ exP := exN_sound (Z.base _) ok 15 4000 8
  have EV : EvOk prog w h₁ (n + 4) (evN base 16) := evN_sound (Z.base _) 16
  -- t = s.read(1)
  refine wpAny_execs_cons (read_stmt (n := n + 1) Z.toStrK ok (sz := 1) f.fb f.st f.off f.hid (.inl hs₀) R (by omega) hp (by omega) ep (by kernel_rfl) rfl rfl (fun q => wpAny_Constant_int (q _ _ (.tok f.fb.base.sub))) fun g₀ s₂ T₂ fb₂ S₂ => ?_)
  have hg : g₀ = s₀.heap := T₂.2.1 hs₀
  subst hg
  have f₂ : FS prog w h₁ C x dx ba b (min (p + 1) b.length) Mu (scOf "parse") env _ s₀ H₀ s₂ H := ⟨fb₂, S₂, f.off, f.hid⟩
  clear T₂ fb₂ S₂
  rcases Nat.lt_or_ge p b.length with c | c
  rotate_left
  · -- nothing is left
    rw [show (b.drop p).take 1 = [] by rw [List.drop_eq_nil_of_le (by omega)]; rfl, show putV (paS b x l []) (nm "t") (.val (.bytes [])) = paS b x l [(nm "t", .val (.bytes []))] from by kernel_rfl] at f₂
    refine wpAny_execs_cons (stmt_step SX R (P := fun f σ' => f = .brk ∧ σ' = paS b x l [(nm "t", .val (.bytes []))]) (fun k hk => by rw [pa1_nil]; exact hk _ _ ⟨rfl, rfl⟩) f₂.fb (fun fl f σ' Mu₃ s₃ H₃ fb₃ st₃ m P => ?_) fun v p σ' s' H' _ _ P => nomatch P.1)
    obtain ⟨rfl, rfl⟩ := P
    cases m
    exact T.stop _ _ _ (.inr (by omega)) (fb₃.weaken (paS_weak _ _ _ _))
  generalize hu : b.getD p 0 = u at *
  rw [take1 c, hu, show putV (paS b x l []) (nm "t") (.val (.bytes [u])) = paS b x l [(nm "t", .val (.bytes [u]))] from by kernel_rfl, show min (p + 1) b.length = p + 1 by omega] at f₂
  -- if not t; i = t[0]
  refine seg_step SX R (ss := [stW "parse" 1, stW "parse" 2]) (P := fun f σ' => f = .next ∧ σ' = paS2 b x l u []) (fun k hk => ?_) f₂.fb (fun fl f σ' Mu₃ s₃ H₃ fb₃ st₃ m P => ?_) fun v p σ' s' H' _ _ P => nomatch P.1
  · show exP (stW "parse" 1) _ _ = _
    rw [pa1]
    show exP (stW "parse" 2) _ _ = _
    rw [pa2]
    exact hk _ _ ⟨rfl, rfl⟩
  obtain ⟨rfl, rfl⟩ := P
  cases m
  have f₃ := f₂.step fb₃ st₃
  -- the test
  refine wpAny_execs_cons (wpAny_If (test_step' (EV _ _ _ ok).2 R (P := fun c => c = decide (0 < u.toNat ∧ u.toNat ≤ 78)) (fun k hk => ?_) f₃.fb.opens fun c s₄ H₄ a₄ hc => ?_))
  · rw [pa3T]
    by_cases c1 : 0 < u.toNat
    · rw [decide_eq_true (by omega)]
      refine hk _ ?_
      rw [Bool.eq_iff_iff]; simp; omega
    · rw [decide_eq_false (by omega)]
      refine hk _ ?_
      rw [decide_eq_false (by omega)]
  subst hc
  have f₄ : FS prog w h₁ C x dx ba b (p + 1) Mu₃ (scOf "parse") env (paS2 b x l u []) s₀ H₀ s₄ H₃ := ⟨f₃.fb.forget a₄.same a₄.keep, f₃.st.keeps a₄.keep, f₃.off, f₃.hid⟩
  have last : ∀ {Mu₅ s₅ H₅} (cm : Str) (r : Vars) (v : Nat) (cc : Option (List UInt8)) (e' : Nat), opAt b p = some (v, cc, e') → cm = cmdS v cc → (∀ k, exP (stW "parse" 4) (paS2 b x l u r) k = gate (lenOk l.length) (k .next (paS2 b x (l ++ [.str cm]) u r))) →
      FS prog w h₁ C x dx ba b e' Mu₅ (scOf "parse") env (paS2 b x l u r) s₀ H₀ s₅ H₅ → wpAny (model prog w) A (execs [stW "parse" 4] env) Q E s₅ := by
    intro Mu₅ s₅ H₅ cm r v cc e' ho hcm ht f₅
    refine wpAny_execs_cons (stmt_step SX R (P := fun f σ' => f = .next ∧ σ' = paS2 b x (l ++ [.str cm]) u r) (fun k hk => by rw [ht, gateT (lenT (by omega))]; exact hk _ _ ⟨rfl, rfl⟩) f₅.fb (fun fl f σ' Mu₆ s₆ H₆ fb₆ st₆ m P => ?_) fun v p σ' s' H' _ _ P => nomatch P.1)
    obtain ⟨rfl, rfl⟩ := P
    cases m
    refine wpAny_execs_nil (T.on Mu₆ s₆ H₆ v cc e' c ho ?_)
    have := f₅.step fb₆ st₆
    rw [hcm] at this
    exact this.weaken (paS_weak _ _ _ _)
  by_cases c1 : 0 < u.toNat ∧ u.toNat ≤ 78
  · rw [decide_eq_true c1, if_pos rfl]
    obtain ⟨fa, fdp, gfa, Fp, hdp, hkp⟩ := Z.push
    obtain ⟨vs, hvs, hrs⟩ := f₄.fb.read (y := nm "s") (q := .raw (.ref x)) rfl
    cases hrs
    obtain ⟨vi, hvi, hri⟩ := f₄.fb.read (y := nm "i") (q := .int u.toNat) rfl
    cases hri
    have X₄ : K.In s₄.heap := Z.X.keeps f₄.fb.base.keep
    have hop := op_pp b p (by rw [hu]; omega) (by rw [hu]; omega)
    rw [hu] at hop
    -- data = _parse_push(s, i)
    refine wpAny_execs_cons (wpAny_Assign_Name (wpAny_Call_Name_kw (name_glob ok (by kernel_rfl) (by unfold nameOk; decide) (gfa.keeps f₄.fb.base.keep) ?_)) (swaps_plain rfl _ _))
    refine callWith_of (P := K.In) rfl (keeps_K (keepIn_of Fp)) (Calls.evalArgs_plain (Calls.spliced_cons (name_read ok.kind hvs (Calls.spliced_cons (name_read ok.kind hvi (Calls.spliced_nil ⟨X₄, ?_⟩))))))
    refine pp_call (n := n) Z.toStrK Fp hdp hkp (Z.base _) f₄.st R f₄.fb.base f₄.hid hl (by omega) (by omega) fun s₅ v M rv => ?_
    obtain ⟨g₅, T₅, fb₅, S₅⟩ := f₄.fb.moved M f₄.st f₄.off.2.1 f₄.hid (.inl hs₀)
    have hg₅ : g₅ = s₀.heap := T₅.2.1 hs₀
    subst hg₅
    refine fb₅.put ok (by kernel_rfl) (rv _) fun s₆ fb₆ t₆ => ?_
    have f₆ : FS prog w h₁ C x dx ba b _ Mu₃ (scOf "parse") env _ s₀ H₀ s₆ H₃ := ⟨fb₆, S₅.touch f₄.off t₆, f₄.off, f₄.hid⟩
    rcases hop with ⟨ho, hv⟩ | ⟨cc, e', ho, hv⟩
    · -- the script ends within the push
      rw [hv, show putV (paS2 b x l u []) (nm "data") (.val .none) = paS2 b x l u [(nm "data", .val .none)] from by kernel_rfl] at f₆
      refine wpAny_execs_cons (stmt_step SX R (P := fun f σ' => f = .brk ∧ σ' = paS2 b x (l ++ [.str (nm "[error]")]) u [(nm "data", .val .none)]) (fun k hk => by rw [pa3b_none, gateT (lenT (by omega))]; exact hk _ _ ⟨rfl, rfl⟩) f₆.fb (fun fl f σ' Mu₇ s₇ H₇ fb₇ st₇ m P => ?_) fun v p σ' s' H' _ _ P => nomatch P.1)
      obtain ⟨rfl, rfl⟩ := P
      cases m
      exact T.err _ _ _ c ho (fb₇.weaken (paS_weak _ _ _ _))
    · rw [hv, show putV (paS2 b x l u []) (nm "data") (.val (.str (upS (hexS cc)))) = paS2 b x l u [(nm "data", .val (.str (upS (hexS cc))))] from by kernel_rfl] at f₆
      refine run_step SX R (P := fun f σ' => f = .next ∧ σ' = paS2 b x l u [(nm "data", .val (.str (upS (hexS cc)))), (nm "command", .val (.str (cmdS u.toNat (some cc))))]) (fun k hk => ?_) f₆.fb (fun fl f σ' Mu₇ s₇ H₇ fb₇ st₇ m P => ?_) fun v p σ' s' H' _ _ P => nomatch P.1
      · show exP (ifB (stW "parse" 3) 1) _ _ = _
        rw [pa3b_str]
        show exP (ifB (stW "parse" 3) 2) _ _ = _
        have hcl : (upS (hexS cc)).length ≤ 1000000 := by
          have ob := opAt_some_len ho
          rw [upS_hexS_len]; omega
        rw [pa3c, gateT (lenT hcl)]
        · by_cases c2 : (upS (hexS cc)).length = 0
          · rw [decide_eq_false (by omega)]
            refine hk _ _ ⟨rfl, ?_⟩
            rw [show cmdS u.toNat (some cc) = nm "OP_0" from if_neg (by omega)]
          · rw [decide_eq_true c2]
            refine hk _ _ ⟨rfl, ?_⟩
            rw [show cmdS u.toNat (some cc) = upS (hexS cc) from if_pos c2]
      obtain ⟨rfl, rfl⟩ := P
      cases m
      exact last _ _ _ _ _ ho rfl (fun k => pa4b ..) (f₆.step fb₇ st₇)
  · rw [decide_eq_false c1, if_neg (by decide)]
    have ho : opAt b p = some (u.toNat, none, p + 1) := by
      have := op_none' b p (by rw [hu]; omega)
      rw [hu] at this; exact this
    have hu256 := u.toNat_lt
    refine run_step SX R (P := fun f σ' => f = .next ∧ σ' = paS2 b x l u [(nm "command", .val (.str (opS u.toNat)))]) (fun k hk => ?_) f₄.fb (fun fl f σ' Mu₅ s₅ H₅ fb₅ st₅ m P => ?_) fun v p σ' s' H' _ _ P => nomatch P.1
    · rw [pa3e]
      cases hlk : opName.lookup (u.toNat : Int) with
      | some y =>
        refine hk _ _ ⟨rfl, ?_⟩
        unfold opS; rw [hlk]
      | none =>
        show gate _ _ = _
        rw [gateT (smallN (by omega)), gateT (lenT ?_)]
        · refine hk _ _ ⟨rfl, ?_⟩
          unfold opS; rw [hlk]; rfl
        · have := toS_len u.toNat hu256
          have e1 : (Str.empty ++ nm "UNKNOWN_OP_CODE_").length = 16 := by kernel_rfl
          omega
    obtain ⟨rfl, rfl⟩ := P
    cases m
    exact last _ _ _ _ _ ho rfl (fun k => pa4a ..) (f₄.step fb₅ st₅)
end Mine
end

/-! Pa4 -/
section
open PySem PySem.W PyProof.Rows PySem.Calls
set_option maxRecDepth 100000
namespace Mine
variable {prog : Program} {w : World} {h₁ : Heap} {n : Nat} {A : Around} {E : Value → Shared → Prop} {s s' : Shared} {H H' : PHeap} {K : Frag} {C p fnew finit fread fcheck x dx ba : Addr} {fd fd' : FuncData} {b : List UInt8} {env : PySem.Env} {Mu : Addr → Prop} {sc : Scope} {σ σ' : Vars} {s₀ : Shared} {H₀ : PHeap}

theorem parse_while (Z : LoopK prog w h₁ K C fread fcheck) (ok : EnvOk (scOf "parse") env) {q1 q2 : Pos} {i : Nat} {Q : Flow → Shared → Prop} (f : FS prog w h₁ C x dx ba b 0 Mu (scOf "parse") env (paS b x [] []) s₀ H₀ s H)
    (hs₀ : s₀.heap.get? dx = none) (R : Room (n + 4) A) (hl : b.length < 4000) (N : ∀ Mu' s' H', FB prog w h₁ Mu' (scOf "parse") env (paS b x (tailS b 4000 0) []) s₀ H₀ s' H' → Q .next s') :
    wpAny (model prog w) A (exec (.While (.Constant (.bool true) i q1) (whB "parse") [] q2) env) Q E s := by
  have EV : EvOk prog w h₁ (n + 4) (evN base 16) := evN_sound (Z.base _) 16
  refine wpAny_While ?_
  refine codeAny_whileLoop (fun m s₂ => ∃ Mu' H' p l k, m = b.length - p ∧ FS prog w h₁ C x dx ba b p Mu' (scOf "parse") env (paS b x l []) s₀ H₀ s₂ H' ∧ p ≤ b.length ∧ l.length ≤ p ∧ b.length - p < k ∧ l ++ tailS b k p = tailS b 4000 0) ?_ b.length
    ⟨Mu, H, 0, [], 4000, rfl, f, Nat.zero_le _, Nat.zero_le _, by omega, rfl⟩
  rintro m s₂ ⟨Mu', H', p, l, k, rfl, f₂, hp, hlp, hk, hT⟩
  refine test_step' (EV _ _ _ ok).2 R (P := fun c => c = true) (fun k hk => hk _ rfl) f₂.fb.opens fun c s₃ H₃ a₃ hc => ?_
  subst hc
  have f₃ : FS prog w h₁ C x dx ba b p Mu' (scOf "parse") env (paS b x l []) s₀ H₀ s₃ H' := ⟨f₂.fb.forget a₃.same a₃.keep, f₂.st.keeps a₃.keep, f₂.off, f₂.hid⟩
  refine parse_turn (n := n) Z ok f₃ hs₀ R (by omega) hp (by omega) ⟨fun Mu₄ s₄ H₄ c fb₄ => ?_, fun Mu₄ s₄ H₄ c ho fb₄ => ?_, fun Mu₄ s₄ H₄ v cc e c ho f₄ => ?_⟩
  · rw [tail_end (by omega), List.append_nil] at hT
    rw [hT] at fb₄
    exact N _ _ _ fb₄
  · obtain ⟨k, rfl⟩ : ∃ j, k = j + 1 := ⟨k - 1, by omega⟩
    rw [tail_err c ho] at hT
    rw [hT] at fb₄
    exact N _ _ _ fb₄
  · obtain ⟨k, rfl⟩ : ∃ j, k = j + 1 := ⟨k - 1, by omega⟩
    obtain ⟨b1, b2⟩ := opAt_bound c ho
    rw [tail_cons c ho] at hT
    refine ⟨b.length - e, by omega, Mu₄, H₄, e, _, k, rfl, f₄, b2, by simp; omega, by omega, ?_⟩
    rw [List.append_assoc]
    exact hT
/-- parse on octets: the words, named -/
theorem parse_call (M : OpenK' prog w h₁ K C p fnew finit fread fcheck) (Z : LoopK prog w h₁ K C fread fcheck) {fa fb : Addr} (F : FnAt K fa (parOf "parse") (bodyOf "parse") (scOf "parse") fd) (hd : fd.defaults = .none) (hk : fd.kwdefaults = .none)
    (gb : GlobIs h₁ (nm "bytesio_from_binarydata") (.ref fb)) (F' : FnAt K fb (parOf "bytesio_from_binarydata") (bodyOf "bytesio_from_binarydata") (scOf "bytesio_from_binarydata") fd') (hd' : fd'.defaults = .none) (hk' : fd'.kwdefaults = .none)
    {t : Tok} {Q : Value → Shared → Prop} (Rm : Room (n + 5) A) (g : Base h₁ H s) (hl : b.length < 4000)
    (q : ∀ v s' H', After s H s' H' → Rep prog w H' v (.lst (tailS b 4000 0)) → Q v s') :
    wpC (model prog w) A (call (.ref fa) [.bytes b.toArray t]) Q E s := by
  obtain ⟨o, ho, hod⟩ := F.get M.X
  have hs := F.scope
  have bind : BindsTo s fd ⟨[.bytes b.toArray t], []⟩ [(nm "stream", .bytes b.toArray t)] := by
    refine .of_eq ?_
    have h1 := F.params
    obtain ⟨⟩ := fd
    dsimp only at h1 hd hk
    subst h1 hd hk
    kernel_rfl
  refine wpC_call (codeC_open (n := n + 4) (pb := [(nm "stream", .bytes b)]) (g.keep _ _ ho) hod (M.lim.keeps g.keep) ((codeRec_of M.X F.code).keeps g.keep) F.body F.clo F.glob F.blt (by rw [hs]; kernel_rfl)
    bind (.cons (.bytes _ _) .nil) Rm g fun env Mu s₁ ok R' fb₁ => ?_)
  rw [hs] at ok fb₁
  obtain ⟨p1, p2, p3, p4, p5, p6, p7, p8, q1, q2, q3, q4, q5, e, _⟩ := parse_body
  rw [e]
  have SX : ∀ {s₀ H₀}, SndX prog w h₁ (n + 4) (scOf "parse") env s₀ H₀ exP := exN_sound (Z.base _) ok 15 4000 8
  obtain ⟨v, hv, hr⟩ := fb₁.read (y := nm "stream") (q := .bytes b) rfl
  cases hr
  have X₁ : K.In s₁.heap := M.X.keeps fb₁.base.keep
  -- s = bytesio_from_binarydata(stream)
  refine execs_consC (Assign_NameC (Call_NameC (name_glob ok (by kernel_rfl) (by unfold nameOk; decide) (gb.keeps fb₁.base.keep) ?_)) (swaps_plain rfl _ _))
  refine callWith_ofC (P := K.In) rfl (keeps_K (keepIn_of F')) (Calls.evalArgs_plain (Calls.spliced_cons (name_read ok.kind hv (Calls.spliced_nil ⟨X₁, ?_⟩))))
  refine bio_call (n := n) M F' hd' hk' R' fb₁.base (by omega) fun x dx ba s₂ a₂ S₂ hx hdx hba => ?_
  have fb₂ := fb₁.after a₂
  have nMu : ∀ a, s₁.heap.get? a = none → ¬ Mu a := fun a e m => by
    obtain ⟨o, z⟩ := fb₁.mid.alive _ m
    rw [e] at z; cases z
  have off₂ : Off Mu x dx ba := ⟨nMu _ hx, nMu _ hdx, nMu _ hba⟩
  have hH : H dx = none := by
    cases z : H dx with
    | none => rfl
    | some o => rw [fb₁.base.sub _ _ z] at hdx; cases hdx
  have hs0 : s.heap.get? dx = none := by
    cases z : s.heap.get? dx with
    | none => rfl
    | some o => rw [fb₁.finish.keep _ _ z] at hdx; cases hdx
  refine fb₂.put ok (by kernel_rfl) (.raw (.ref x)) fun s₃ fb₃ t₃ => wpC_of ?_
  have f₃ : FS prog w h₁ C x dx ba b 0 Mu (scOf "parse") env _ s H s₃ H := ⟨fb₃, S₂.touch off₂ t₃, off₂, hH⟩
  -- r = []
  refine wpAny_execs_cons (stmt_step SX R' (P := fun f σ' => f = .next ∧ σ' = paS b x [] []) (fun k hk => ?_) f₃.fb (fun fl f σ' Mu₄ s₄ H₄ fb₄ st₄ m P => ?_) fun v p σ' s' H' _ _ P => nomatch P.1)
  · rw [show exP (.Assign [.Name (nm "r") p6] (.List [] p7) p8) (putV (valsOf [(nm "stream", .bytes b)]) (nm "s") (.val (.raw (.ref x)))) k = k .next (paS b x [] []) from by kernel_rfl]
    exact hk _ _ ⟨rfl, rfl⟩
  obtain ⟨rfl, rfl⟩ := P
  cases m
  have f₄ := f₃.step fb₄ st₄
  -- while True
  refine wpAny_execs_cons (parse_while (n := n) Z ok f₄ hs0 R' hl fun Mu₅ s₅ H₅ fb₅ => ?_)
  -- return r
  refine wpAny_execs_cons (stmt_step SX R' (P := fun f σ' => f = .ret (.lst (tailS b 4000 0))) (fun k hk => ?_) fb₅ (fun fl f σ' Mu₆ s₆ H₆ fb₆ st₆ m P => ?_) fun v p σ' s' H' a hv P => ?_)
  · rw [show exP (.Return (some (.Name (nm "r") q3)) q4) (paS b x (tailS b 4000 0) []) k = k (.ret (.lst (tailS b 4000 0))) (paS b x (tailS b 4000 0) []) from by kernel_rfl]
    exact hk _ _ rfl
  · subst P; cases m
  · cases P
    exact q v s' H' a hv
end Mine
end

/-! Gn1 -/
section
open PySem PySem.W PyProof.Rows PySem.Calls
set_option maxRecDepth 100000
namespace Mine
def TG : Tbl := tb [(nm "read_op_code", rdF)]
def neE : Expr → Expr
  | .Compare (.NamedExpr _ v _) _ _ _ => v
  | e => e
def yiE : Stmt → Expr
  | .Expr (.Yield (some e) _) _ => e
  | _ => default
theorem gn_body : ∃ p1 p2 p3 p4 q1 q2 q3 q4 q5 q6, bodyOf "op_code_spans" = [.Assign [.Name (nm "start") p1] (.Constant (.int 0) 0 p2) p3,
   .While (.Compare (.NamedExpr (.Name (nm "span") q1) (neE (whT "op_code_spans")) q2) [.IsNot] [.Constant .none 0 q3] q4) (whB "op_code_spans") [] p4] ∧
   whB "op_code_spans" = [stW "op_code_spans" 0, .Expr (.Yield (some (yiE (stW "op_code_spans" 1))) q5) q6, stW "op_code_spans" 2] :=
  ⟨_, _, _, _, _, _, _, _, _, _, by with_unfolding_all rfl, by with_unfolding_all rfl⟩
abbrev gsc : Scope := scOf "op_code_spans"
def gS (b : List UInt8) (i : Nat) (r : Vars) : Vars := (nm "script", .val (.bytes b)) :: (nm "start", .val (.int (i : Int))) :: r
theorem gn_st0 (b : List UInt8) (k : KS) : exN TG gsc 16 4000 8 ((bodyOf "op_code_spans").getD 0 (.Pass ⟨0, 0, 0, 0⟩)) [(nm "script", .val (.bytes b))] k = k .next (gS b 0 []) := by kernel_rfl
theorem gn_rd (b : List UInt8) (i : Nat) (k : K) : (evN TG 16).ev gsc (neE (whT "op_code_spans")) (rdV (gS b i [])) k = gate (okBI b (i : Int)) (match rdP b (i : Int).toNat with
    | none => k .none
    | some (w, e) => k (.tup [.int (w : Nat), .int (e : Nat)])) := by kernel_rfl
def gS2 (b : List UInt8) (i w e : Nat) : Vars := gS b i [(nm "span", .val (.tup [.int (w : Nat), .int (e : Nat)])), (nm "op_code", .val (.int (w : Nat))), (nm "stop", .val (.int (e : Nat)))]
theorem gn_un (b : List UInt8) (i w e : Nat) (k : KS) : exN TG gsc 16 4000 8 (stW "op_code_spans" 0) (gS b i [(nm "span", .val (.tup [.int (w : Nat), .int (e : Nat)]))]) k = k .next (gS2 b i w e) := by kernel_rfl
theorem gn_y (b : List UInt8) (i w e : Nat) (k : K) : (evN TG 16).ev gsc (yiE (stW "op_code_spans" 1)) (rdV (gS b i [(nm "op_code", .val (.int (w : Nat))), (nm "stop", .val (.int (e : Nat)))])) k = k (.tup [.int (w : Nat), .int (i : Nat), .int (e : Nat)]) := by kernel_rfl
theorem gn_st2 (b : List UInt8) (i w e : Nat) (k : KS) : exN TG gsc 16 4000 8 (stW "op_code_spans" 2) (gS b i [(nm "stop", .val (.int (e : Nat)))]) k = k .next (gS b e [(nm "stop", .val (.int (e : Nat)))]) := by kernel_rfl
end Mine
end

/-! Gn2 -/
section
open PySem PySem.W PyProof.Rows PySem.Calls
set_option maxRecDepth 100000
namespace Mine
variable {prog : Program} {w : World} {h₁ : Heap} {n : Nat} {A : Around} {E : Value → Shared → Prop} {s s' s'' : Shared} {H H' : PHeap} {b : List UInt8} {env : PySem.Env} {sc : Scope} {Mu Mu' : Addr → Prop} {σ σ' : Vars} {s₀ : Shared} {H₀ : PHeap}

abbrev SItem := Nat × Nat × Nat
def spans (b : List UInt8) : Nat → Nat → List SItem
  | 0, _ => []
  | m + 1, i => match rdP b i with
    | none => []
    | some (w, e) => (w, i, e) :: spans b m e
def TupNew (prog : Program) (w : World) (H : PHeap) (s₀ s : Shared) (v : Value) (ws : List PV) : Prop :=
  ∃ c o vs n, v = .ref c ∧ (H c = some o ∨ s₀.heap.get? c = none) ∧ s.heap.get? c = some o ∧ TupCls o vs ∧ o.data = .seq vs.toArray n ∧ ∀ H', RepL prog w H' vs ws
def spV (x : SItem) : List PV := [.int (x.1 : Int), .int (x.2.1 : Int), .int (x.2.2 : Int)]
/-- between two states of the generator nothing of old changes but its own -/
def GMove (Mu : Addr → Prop) (s₀ s : Shared) : Prop := ∀ a o, ¬ Mu a → s₀.heap.get? a = some o → s.heap.get? a = some o
theorem GMove.refl (s : Shared) : GMove Mu s s := fun _ _ _ e => e
theorem GMove.trans {a b c : Shared} (x : GMove Mu a b) (y : GMove Mu b c) : GMove Mu a c := fun i o h e => y i o h (x i o h e)
theorem GMove.after (a : After s H s' H') : GMove Mu s s' := fun i o _ e => a.keep i o e
theorem RepL.flats : ∀ {vs : List Value} {ps : List PV}, RepL prog w H vs ps → ps.all flatP = true → ∀ H', RepL prog w H' vs ps
  | _, _, .nil, _, _ => .nil
  | _, _, .cons a r, h, H' => by
    rw [List.all_cons] at h
    exact .cons (a.flat (and_split h).1 H') (r.flats (and_split h).2 H')
theorem TupNew.of {v : Value} {ws : List PV} (hr : Rep prog w H' v (.tup ws)) (hf : ws.all flatP = true) (a : After s₀ H s H') : TupNew prog w H s₀ s v ws := by
  cases hr with
  | tup h1 h2 h3 h4 => exact ⟨_, _, _, _, rfl, a.fresh _ _ h1, a.sub _ _ h1, h2, h3, h4.flats hf⟩
theorem TupNew.back {v : Value} {ws : List PV} (t : TupNew prog w H s' s'' v ws) (h : ∀ a, s'.heap.get? a = none → s.heap.get? a = none) : TupNew prog w H s s'' v ws := by
  obtain ⟨c, o, vs, n, e1, e2, e3⟩ := t
  exact ⟨c, o, vs, n, e1, e2.imp id (h c), e3⟩

section
variable (prog : Program) (w : World) (h₁ : Heap) (Mu : Addr → Prop) (env : PySem.Env) (s₀ : Shared) (H₀ : PHeap) (b : List UInt8) (items : List SItem)
def gR : GenEnd := fun n s r s₁ => r = .ok (.ret .none) ∧ (n = 0 ∧ GMove Mu s s₁ ∧ FB prog w h₁ Mu gsc env [] s₀ H₀ s₁ H₀)
def gY : Protocol := fun m s v s₁ kap => ∃ it, items[items.length - 1 - m]? = some it ∧ TupNew prog w H₀ s s₁ v (spV it) ∧ GMove Mu s s₁ ∧ FB prog w h₁ Mu gsc env (gS b it.2.1 [(nm "stop", .val (.int (it.2.2 : Int)))]) s₀ H₀ s₁ H₀ ∧
  ∀ s'', FB prog w h₁ Mu gsc env (gS b it.2.1 [(nm "stop", .val (.int (it.2.2 : Int)))]) s₀ H₀ s'' H₀ → kap (.send .none) s''
end
theorem rdP_bound {i w e : Nat} (h : rdP b i = some (w, e)) : i < e ∧ e ≤ b.length ∧ w < 256 := by
  have hw : (b.getD i 0).toNat < 256 := (b.getD i 0).toNat_lt
  unfold rdP at h
  dsimp only at h
  split at h
  · cases h
  split at h
  · split at h
    · split at h
      · cases h
      · split at h
        · cases h
        · cases h
          have : 0 < 2 ^ ((b.getD i 0).toNat - 76) := Nat.pow_pos (by decide)
          omega
    · split at h
      · cases h
      · cases h; omega
  · cases h; omega
/-- the block as it was first, with flat values only -/
theorem FB.back (b₀ : FB prog w h₁ Mu sc env σ' s₀ H₀ s H) (b : FB prog w h₁ Mu' sc env σ s₀ H₀ s' H') (sub : ∀ a, Mu a → Mu' a)
    (hf : ∀ x q, lookV σ x = some q → ∃ p, q = .val p ∧ flatP p = true) : FB prog w h₁ Mu sc env σ s₀ H₀ s' H₀ := by
  have off : ∀ a, Mu' a → H₀ a = none := fun a h => by
    cases q : H₀ a with
    | none => rfl
    | some o => have := b.mid.grow _ _ q; rw [b.mid.off a h] at this; cases this
  refine ⟨⟨b.base₀, ⟨b.mid.same, fun a o _ e => b.mid.keep a o (fun h => by rw [b.fresh a h] at e; cases e) e, fun a o e => b.mid.sub a o (b.mid.grow a o e), fun _ _ e => e, fun _ _ e => .inl e, fun a h => off a (sub a h), fun a h => b.mid.alive a (sub a h)⟩,
    ⟨b₀.fm.loc, b.fm.ns, fun y e => ?_, b.fm.apart⟩, ⟨fun x p e => ?_, fun x l e => ?_, fun x y l m a e => ?_⟩⟩, b₀.fresh⟩
  · obtain ⟨c, v, h1, h2, h3⟩ := b.fm.cel y e
    obtain ⟨c', v', h1', h2', _⟩ := b₀.fm.cel y e
    rw [h1] at h1'; cases h1'
    exact ⟨c, v, h1, h2', h3⟩
  · obtain ⟨v, h1, h2⟩ := b.vars.val x p e
    obtain ⟨p', e', hp⟩ := hf x _ e
    cases e'
    exact ⟨v, h1, h2.flat hp _⟩
  · obtain ⟨p', e', _⟩ := hf x _ e; cases e'
  · obtain ⟨p', e', _⟩ := hf x _ e; cases e'
theorem seg_of_execs {M : Model} {A : Around} {R : GenEnd} {Y : Protocol} {n : Nat} {s₀ : Shared} {c : Code} {fs : List Frame} {s : Shared} {env : PySem.Env} {K : Flow → Sem Fin} {H : Value → Sem Fin} {gd : Bool → Bool} {lv : List Value → List Value} {ss ss' : List Stmt} (h : ss = ss')
    (g : Seg M A R Y n s₀ c ((execs ss' env).wrap K H gd lv) fs s) : Seg M A R Y n s₀ c ((execs ss env).wrap K H gd lv) fs s := h ▸ g
theorem gS_flat {i : Nat} {r : Vars} (hr : ∀ x q, lookV r x = some q → ∃ p, q = .val p ∧ flatP p = true) : ∀ x q, lookV (gS b i r) x = some q → ∃ p, q = .val p ∧ flatP p = true := by
  intro x q h
  unfold gS at h
  simp only [lookV] at h
  by_cases c1 : nm "script" = x
  · rw [decide_eq_true c1] at h; cases h; exact ⟨_, rfl, rfl⟩
  rw [decide_eq_false c1] at h
  by_cases c2 : nm "start" = x
  · rw [decide_eq_true c2] at h; cases h; exact ⟨_, rfl, rfl⟩
  rw [decide_eq_false c2] at h
  exact hr x q h
theorem gS_weak {i : Nat} {r r' : Vars} (hr : ∀ x q, lookV r' x = some q → lookV r x = some q) : ∀ x q, lookV (gS b i r') x = some q → lookV (gS b i r) x = some q := by
  intro x q h
  unfold gS at h ⊢
  simp only [lookV] at h ⊢
  by_cases c1 : nm "script" = x
  · rw [decide_eq_true c1] at h ⊢; exact h
  rw [decide_eq_false c1] at h ⊢
  by_cases c2 : nm "start" = x
  · rw [decide_eq_true c2] at h ⊢; exact h
  rw [decide_eq_false c2] at h ⊢
  exact hr x q h
theorem one_flat {y : Str} {i : Int} : ∀ x q, lookV [(y, .val (.int i))] x = some q → ∃ p, q = Bnd.val p ∧ flatP p = true := by
  intro x q h
  simp only [lookV] at h
  by_cases c1 : y = x
  · rw [decide_eq_true c1] at h; cases h; exact ⟨_, rfl, rfl⟩
  rw [decide_eq_false c1] at h; cases h
theorem two_flat {y z : Str} {i j : Int} : ∀ x q, lookV [(y, .val (.int i)), (z, .val (.int j))] x = some q → ∃ p, q = Bnd.val p ∧ flatP p = true := by
  intro x q h
  simp only [lookV] at h
  by_cases c1 : y = x
  · rw [decide_eq_true c1] at h; cases h; exact ⟨_, rfl, rfl⟩
  rw [decide_eq_false c1] at h
  by_cases c2 : z = x
  · rw [decide_eq_true c2] at h; cases h; exact ⟨_, rfl, rfl⟩
  rw [decide_eq_false c2] at h; cases h
theorem tail_weak {y z : Str} {v u : Bnd} (hn : y ≠ z) : ∀ x q, lookV [(z, u)] x = some q → lookV [(y, v), (z, u)] x = some q := by
  intro x q h
  simp only [lookV] at h ⊢
  by_cases c1 : y = x
  · subst c1
    rw [decide_eq_false (fun e => hn e.symm)] at h; cases h
  rw [decide_eq_false c1]
  exact h
theorem tail_weak2 {y z a : Str} {v u t : Bnd} (h1 : y ≠ z) (h2 : y ≠ a) : ∀ x q, lookV [(z, u), (a, t)] x = some q → lookV [(y, v), (z, u), (a, t)] x = some q := by
  intro x q h
  rw [show lookV [(y, v), (z, u), (a, t)] x = bif decide (y = x) then some v else lookV [(z, u), (a, t)] x from rfl]
  by_cases c1 : y = x
  · subst c1
    simp only [lookV] at h
    rw [decide_eq_false (fun e => h1 e.symm), decide_eq_false (fun e => h2 e.symm)] at h; cases h
  rw [decide_eq_false c1]
  exact h

/-- the loop of the generator -/
theorem gn_loop (TO : TblOk prog w h₁ n TG) (ok : EnvOk gsc env) {q1 q2 q3 q4 q5 q6 : Pos} {c : Code} {k : Result → Sem Fin} {p : Pos} {A : Around} {items : List SItem}
    (hB : whB "op_code_spans" = [stW "op_code_spans" 0, .Expr (.Yield (some (yiE (stW "op_code_spans" 1))) q5) q6, stW "op_code_spans" 2])
    (hend : ∀ s s₁, gR prog w h₁ Mu env s₀ H₀ 0 s (.ok (.ret .none)) s₁ → Seg (model prog w) A (gR prog w h₁ Mu env s₀ H₀) (gY prog w h₁ Mu env s₀ H₀ b items) 0 s c (k (.ok .next)) [] s₁)
    (R : ∀ T B O, Room n (A.over (.whileLoop T B O env) [.ret k none false [] c p []])) (hl : b.length ≤ 100000) (hi : interactive env = false) (hco : env.scope.isCoroutine = false) :
    ∀ (m i : Nat) (pre : List SItem) (σr : Vars) (s s' : Shared), items = pre ++ spans b m i → b.length - i < m → i ≤ b.length → FB prog w h₁ Mu gsc env (gS b i σr) s₀ H₀ s' H₀ → GMove Mu s s' → (∀ a, s'.heap.get? a = none → s.heap.get? a = none) →
    Seg (model prog w) A (gR prog w h₁ Mu env s₀ H₀) (gY prog w h₁ Mu env s₀ H₀ b items) (spans b m i).length s
      (.whileLoop (.Compare (.NamedExpr (.Name (nm "span") q1) (neE (whT "op_code_spans")) q2) [.IsNot] [.Constant .none 0 q3] q4) (whB "op_code_spans") [] env)
      ((model prog w).den (.whileLoop (.Compare (.NamedExpr (.Name (nm "span") q1) (neE (whT "op_code_spans")) q2) [.IsNot] [.Constant .none 0 q3] q4) (whB "op_code_spans") [] env)) [.ret k none false [] c p []] s' := by
  intro m
  induction m with
  | zero => intro i pre σr s s' _ h; omega
  | succ m ih =>
    intro i pre σr s s' hit hm hi' fb mv hn
    have SX : ∀ {s₀ H₀}, SndX prog w h₁ n gsc env s₀ H₀ (exN TG gsc 16 4000 8) := exN_sound TO ok 15 4000 8
    have EV : EvOk prog w h₁ n (evN TG 16) := evN_sound TO 16
    have fb := fb.weaken (σ' := gS b i []) (gS_weak fun x q h => nomatch h)
    refine seg_whileLoop (wpAny_isTrue_Compare1 (wpAny_NamedExpr (eval_step (EV _ _ _ ok).1 (R _ _ _) (P := fun v => v = match rdP b i with
      | none => .none
      | some (w, e) => .tup [.int (w : Nat), .int (e : Nat)]) (fun k hk => ?_) fb.good fun v pv s₁ H₁ a₁ hv P => ?_)))
    · rw [gn_rd, gateT (by unfold okBI; rw [decide_eq_true (by omega), decide_eq_true (by omega), decide_eq_true (by omega)]; rfl), Int.toNat_natCast]
      cases hr : rdP b i with
      | none => exact hk _ (by rw [hr])
      | some z => obtain ⟨w', e'⟩ := z; exact hk _ (by rw [hr])
    · subst P
      have fb₁ := fb.after a₁
      refine wpAny_assign_Name (fb₁.put ok (by kernel_rfl) hv fun s₂ fb₂ t₂ => ?_)
      refine const_none (isnot_none_gen (wpAny_truthy_bool ?_))
      have mv₂ : GMove Mu s s₂ := mv.trans ((GMove.after a₁).trans t₂.keep)
      have hn₂ : ∀ a, s₂.heap.get? a = none → s.heap.get? a = none := fun a h => hn a (by
        cases q : s'.heap.get? a with
        | none => rfl
        | some o => obtain ⟨o', z⟩ := t₂.live a o (a₁.keep a o q); rw [h] at z; cases z)
      cases hr : rdP b i with
      | none =>
        rw [hr] at hv fb₂
        cases hv
        rw [show (!(Value.none == Value.none)) = false from rfl, if_neg Bool.false_ne_true, show spans b (m + 1) i = [] by unfold spans; rw [hr]]
        refine seg_execs_nil ?_
        exact seg_leaf (.ok .next) (hend _ _ ⟨rfl, rfl, mv₂, fb.back (fb₂.weaken (σ' := []) fun x q h => nomatch h) (fun _ h => h) fun x q h => nomatch h⟩)
      | some z =>
        obtain ⟨wd, e⟩ := z
        obtain ⟨b1, b2, b3⟩ := rdP_bound hr
        rw [hr] at hv fb₂
        cases hv with
        | tup g1 g2 g3 g4 =>
        rw [show ∀ c, (!(Value.ref c == Value.none)) = true from fun _ => rfl, if_pos rfl]
        have es : spans b (m + 1) i = (wd, i, e) :: spans b m e := by rw [spans]; rw [hr]
        rw [es, List.length_cons]
        refine seg_of_execs hB (seg_execs_cons (seg_wrap (stmt_step SX (R _ _ _) (P := fun f σ' => f = .next ∧ σ' = gS2 b i wd e) (fun k hk => ?_) fb₂ (fun fl f σ' Mu₃ s₃ H₃ fb₃ st₃ m P => ?_) fun v p σ' s' H' _ _ P => nomatch P.1)))
        · rw [show putV (gS b i []) (nm "span") (.val (.tup [.int (wd : Nat), .int (e : Nat)])) = gS b i [(nm "span", .val (.tup [.int (wd : Nat), .int (e : Nat)]))] from by kernel_rfl, gn_un]
          exact hk _ _ ⟨rfl, rfl⟩
        obtain ⟨rfl, rfl⟩ := P
        cases m
        have fb₃' := fb.back (fb₃.weaken (σ' := gS b i [(nm "op_code", .val (.int (wd : Nat))), (nm "stop", .val (.int (e : Nat)))]) (gS_weak (tail_weak2 (by decide) (by decide)))) st₃.sub (gS_flat two_flat)
        refine seg_execs_cons (seg_Expr_Yield rfl rfl rfl (eval_step (EV _ _ _ ok).1 (R _ _ _) (P := fun v => v = .tup (spV (wd, i, e))) (fun k hk => ?_) fb₃'.good fun v pv s₄ H₄ a₄ hv P => fun kap hk => ?_) hco hi)
        · rw [gn_y]; exact hk _ rfl
        subst P
        have hn₃ : ∀ a, s₃.heap.get? a = none → s.heap.get? a = none := fun a h => hn₂ a (by
          cases q : s₂.heap.get? a with
          | none => rfl
          | some o => obtain ⟨o', z⟩ := st₃.live a o q; rw [h] at z; cases z)
        refine ⟨(wd, i, e), ?_, (TupNew.of hv (by rfl) a₄).back hn₃, mv₂.trans (GMove.trans st₃.keep (GMove.after a₄)), (fb₃'.forget a₄.same a₄.keep).weaken (gS_weak (tail_weak (by decide))), fun s₅ fb₅ => hk .none s₅ ?_⟩
        · rw [hit, es, List.length_append, List.length_cons, show pre.length + ((spans b m e).length + 1) - 1 - (spans b m e).length = pre.length by omega, List.getElem?_append_right (Nat.le_refl _), Nat.sub_self]
          rfl
        · show Seg _ _ _ _ _ s₅ _ ((execs [stW "op_code_spans" 2] env).wrap _ _ _ _) _ s₅
          refine seg_execs_cons (seg_wrap (stmt_step SX (R _ _ _) (P := fun f σ' => f = .next ∧ σ' = gS b e [(nm "stop", .val (.int (e : Nat)))]) (fun k hk => by rw [gn_st2 b i wd e]; exact hk _ _ ⟨rfl, rfl⟩) fb₅ (fun fl f σ' Mu₆ s₆ H₆ fb₆ st₆ m P => ?_) fun v p σ' s' H' _ _ P => nomatch P.1))
          obtain ⟨rfl, rfl⟩ := P
          cases m
          refine seg_execs_nil (seg_again rfl (ih e (pre ++ [(wd, i, e)]) _ s₅ s₆ ?_ (by omega) b2 (fb₅.back fb₆ st₆.sub (gS_flat one_flat)) st₆.keep fun a h => ?_))
          · rw [hit, es, List.append_assoc]; rfl
          · cases q : s₅.heap.get? a with
            | none => rfl
            | some o => obtain ⟨o', z⟩ := st₆.live a o q; rw [h] at z; cases z
end Mine
end

/-! Gn3 -/
section
open PySem PySem.W PyProof.Rows PySem.Calls
set_option maxRecDepth 100000
namespace Mine
variable {prog : Program} {w : World} {h₁ : Heap} {n : Nat} {A : Around} {E : Value → Shared → Prop} {s s' s'' : Shared} {H H' : PHeap} {b : List UInt8} {env : PySem.Env} {sc : Scope} {Mu Mu' : Addr → Prop} {σ σ' : Vars} {s₀ : Shared} {H₀ : PHeap}
theorem frame_open3 {fa : Addr} {fd : FuncData} {binds : List (Str × Value)} {pb : List (Str × PV)} {P : PySem.Env → Shared → Prop} (hlim : s.heap.NoLimit) (hglob : fd.globals = mainGlobals) (hblt : fd.builtins = builtinsNs)
    (hsc : ((pb.map (·.1)).all (stOk fd.scope) && decide (pb.map (·.1)).Nodup && decide (fd.scope.kind = .function)) = true) (hr : RepK prog w H binds pb) (g : Base h₁ H s) (N : ∀ env Mu s₁, EnvOk fd.scope env → env.scope = fd.scope → FB prog w h₁ Mu fd.scope env (valsOf pb) s H s₁ H → P env s₁) :
    wpAny (model prog w) A.in1 (newFunctionEnv fd.scope fd.globals [] binds (fd.qualname ++ ".<locals>.") (some fa) fd.code none fd.builtins) (fun env s₂ => s₂.heap.NoLimit ∧ P env s₂) E s := by
  obtain ⟨hsc, h3⟩ := and_split hsc
  obtain ⟨h1, h2⟩ := and_split hsc
  have h1 := List.all_eq_true.mp h1
  have h2 := of_decide_eq_true h2
  have h3 := of_decide_eq_true h3
  have nms := repK_names hr
  have kinds : ∀ x ∈ binds, (stOk fd.scope x.1) = true := fun x hx => h1 _ (nms ▸ List.mem_map.mpr ⟨x, hx, rfl⟩)
  have kd : ∀ x, stOk fd.scope x = true → nameOk x ∧ (fd.scope.names.lookup x = some .local ∨ fd.scope.names.lookup x = some .cell) := by
    intro x h
    obtain ⟨ha, hb⟩ := and_split h
    obtain ⟨hb, hc⟩ := and_split hb
    refine ⟨⟨by simpa using hb, by simpa using hc⟩, ?_⟩
    split at ha
    · rename_i q; exact .inl q
    · rename_i q; exact .inr q
    · cases ha
  refine wpAny_newFunctionEnv_cells h3 (fun x hx => ?_) fun env he s₁ x => ?_
  · rcases (kd _ (kinds x hx)).2 with q | q
    · exact .inl q
    · exact .inr ⟨q, cellsFrom_has (.inl q)⟩
  subst he
  refine ⟨hlim.keeps x.toInCall.keep, ?_⟩
  generalize hEnv : newEnv fd.scope s.heap.objs.size fd.globals (cellsFrom (s.heap.objs.size + 1) fd.scope.names []) (fd.qualname ++ ".<locals>.") (some fa) fd.code none fd.builtins = env at x ⊢
  have hkind : ∀ y, env.kindOf y = fd.scope.names.lookup y := by intro y; rw [← hEnv]; rfl
  have ok : EnvOk fd.scope env := by
    refine ⟨⟨fun y e => (hkind y).trans e, fun y e => (hkind y).trans e⟩, fun y e => ?_, by rw [← hEnv]; exact h3, by rw [← hEnv]; exact hglob, by rw [← hEnv]; exact hblt, fun y e => (hkind y).trans e, fun y z c hy hz => ?_⟩
    · have : (env.cells.lookup y).isSome = true := by rw [← hEnv]; exact cellsFrom_has (.inl e)
      exact Option.isSome_iff_exists.mp this
    · exact name_of_addr x.apart (mem_of_lookup hy) (mem_of_lookup hz)
  have hL : s.heap.objs.size ≤ env.locals := x.toInCall.fresh
  have freshL : ∀ a, s.heap.objs.size ≤ a → s.heap.get? a = none := fun a ha => by
    cases q : s.heap.get? a with
    | none => rfl
    | some o' => exact absurd (Heap.lt_size q) (Nat.not_lt.mpr ha)
  let Mu : Addr → Prop := fun a => a = env.locals ∨ ∃ y c, env.cells.lookup y = some c ∧ a = c
  have MuF : ∀ a, Mu a → s.heap.get? a = none := by
    rintro a (rfl | ⟨y, c, hc, rfl⟩)
    · exact freshL _ hL
    · exact freshL _ (Nat.le_of_lt (Nat.lt_of_le_of_lt hL (x.above _ _ (mem_of_lookup hc))))
  have off : ∀ a, Mu a → H a = none := fun a ha => by
    cases q : H a with
    | none => rfl
    | some o => have := g.sub _ _ q; rw [MuF a ha] at this; cases this
  have same : Same s s₁ := by
    obtain ⟨h', tk, e⟩ := x.toInCall.same
    rw [e]; exact .upd _ _ _
  have fb : FB prog w h₁ Mu fd.scope env (valsOf pb) s H s₁ H := by
    refine ⟨⟨g, ⟨same, fun a o _ e => x.toInCall.keep a o e, fun a o e => x.toInCall.keep a o (g.sub a o e), fun _ _ e => e, fun _ _ e => .inl e, off, ?_⟩, ⟨.inl rfl, ⟨_, x.toInCall.ns⟩, fun y e => ?_, ok.inj⟩, ⟨fun y q e => ?_, fun y l e => ?_, fun y z l m a e => ?_⟩⟩, MuF⟩
    · rintro a (rfl | ⟨y, c, hc, rfl⟩)
      · obtain ⟨o, _, _, q, _⟩ := x.toInCall.ns; exact ⟨o, q⟩
      · obtain ⟨o, q, _⟩ := x.cell y _ hc; exact ⟨o, q⟩
    · obtain ⟨c, hc⟩ := ok.cells y e
      exact ⟨c, _, hc, .inr ⟨y, c, hc, rfl⟩, x.cell y c hc⟩
    · obtain ⟨v, hv, hrep⟩ := repK_get hr e
      obtain ⟨nk, hk⟩ := kd y (kinds _ hv)
      refine ⟨v, ⟨nk, ?_⟩, hrep⟩
      rcases hk with hk | hk
      · exact .inl ⟨(hkind y).trans hk, _, x.toInCall.ns, bindL_get (by rw [nms]; exact h2) hv ((hkind y).trans hk)⟩
      · obtain ⟨c, hc⟩ := ok.cells y hk
        have cc := x.cell y c hc
        rw [bindC_get (by rw [nms]; exact h2) hv ((hkind y).trans hk)] at cc
        exact .inr ⟨.inl ((hkind y).trans hk), c, hc, cc⟩
    · obtain ⟨p, hp⟩ := valsOf_val e; cases hp
    · obtain ⟨p, hp⟩ := valsOf_val e; cases hp
  exact N env Mu s₁ ok (by rw [← hEnv]; rfl) fb



theorem same_setGen {s₀ s : Shared} {g : Nat} {X : GenState} (h : Same s₀ s) (hb : X.bare = true) : Same s₀ (s.setGen g X) := by
  refine ⟨h.1, fun e y hy => ?_, by show _ ≤ (s.gens.setIfInBounds g X).size; rw [Array.size_setIfInBounds]; exact h.2.2⟩
  have := h.2.1 e
  change y ∈ s.gens.setIfInBounds g X at hy
  rcases Array.mem_or_eq_of_mem_setIfInBounds hy with z | z
  · exact this y z
  · rw [z]; exact hb
theorem FB.regen (b : FB prog w h₁ Mu sc env σ s₀ H₀ s H) {g : Nat} {X : GenState} (hb : X.bare = true) : FB prog w h₁ Mu sc env σ s₀ H₀ (s.setGen g X) H :=
  ⟨⟨b.base₀, ⟨same_setGen b.mid.same hb, b.mid.keep, b.mid.sub, b.mid.grow, b.mid.fresh, b.mid.off, b.mid.alive⟩, ⟨b.fm.loc, b.fm.ns, b.fm.cel, b.fm.apart⟩, ⟨b.vars.val, b.vars.own, b.vars.apart⟩⟩, b.fresh⟩
theorem setGen_at {s : Shared} {g : Nat} {x : GenState} (hlt : g < s.gens.size) : (s.setGen g x).gens[g]? = some x := by
  simp [Shared.setGen, hlt]

/-- a generator's def is woken -/
theorem next_genQ {a : Addr} {g n : Nat} {gs : GenState} {P : Nat → Shared → Shared → Prop} {Y : Protocol} {Q : Option Value → Shared → Prop} (hh : A.handled = none) (hl : s.heap.NoLimit) (hroom : A.depth < recursionLimit)
    (hg : s.heap.IsGen a g) (hgs : s.gens[g]? = some gs) (hgo : gs.Goes (model prog w) A.in1 (fun n s₀ r s₁ => r = .ok (.ret .none) ∧ P n s₀ s₁) Y n (.send .none) (s.setGen g .running))
    (hY : ∀ v s₁ gs', gs'.bare = true → Y (n - 1) (s.setGen g .running) v s₁ (fun r' s'' => match n with
        | 0 => False
        | m + 1 => gs'.Goes (model prog w) A.in1 (fun n s₀ r s₁ => r = .ok (.ret .none) ∧ P n s₀ s₁) Y m r' s'') → Q (some v) (s₁.setGen g gs'))
    (hP : ∀ s₁, P n (s.setGen g .running) s₁ → ∀ h', (∀ b o, s₁.heap.get? b = some o → h'.get? b = some o) → Q none { s₁.setGen g .finished with heap := h' }) :
    wpAny (model prog w) A (pyNext (.ref a)) Q E s := by
  unfold pyNext
  refine wpAny_bind (wpAny_attempt (wpAny_callSpecial?_slot (name := Str.ofString "__next__") hg.typeIs slot_gen_next (wpAny_call_entry slot_gen_next hg.typeIs entry_gen_next ?_ (args_gen_next _))))
  show wpAny _ A.in1 (Builtin.Generator.genWake (.ref a) (.send .none)) _ _ s
  unfold Builtin.Generator.genWake
  refine wpAny_bind (wpAny_holding (wpAny_genNumber hg (wpAny_bind (wpAny_genState hgs ?_))))
  cases gs with
  | running => exact hgo.elim
  | finished => exact hgo.elim
  | _ =>
    refine wpAny_bind (wpAny_roomToWake hl hroom ?_)
    show wpAny _ _ (.resume g (.send .none) [] _) _ _ s
    refine wpAny_resumeQ hgs hgo (fun x s₁ hx => ?_) (fun v s₁ gs' hb hv => ?_)
    · obtain ⟨rfl, hp⟩ := hx
      show wpAny _ _ (newExc (.type "StopIteration") [] >>= _) _ _ _
      refine wpAny_bind ?_
      simp only [newExc, newTuple]
      refine wpAny_bind (wpAny_newObj_type ?_ (by size_fits))
      refine wpAny_bind (m := firstArgMember _ _) (wpAny_of_eq (a := Value.none) (by first | rfl | (simp only [firstArgMember]; rfl)) ?_)
      refine wpAny_newObj_type ?_ (by size_fits)
      simp only [raiseNew]
      refine wpAny_bind (wpAny_bind (wpAny_handled ?_))
      rw [show A.in1.handled = none from hh]
      refine wpAny_throw ?_
      refine wpAny_bind (wpAny_isInstance (T := "StopIteration") (b := true) ⟨_, Heap.get?_push_size _ rfl, rfl⟩ isSubtype_stop ?_)
      exact wpAny_pure (hP s₁ hp _ fun b o hb => Heap.get?_push_of_some _ (Heap.get?_push_of_some _ hb))
    · exact wpAny_pure ⟨v, rfl, wpAny_pure (hY v s₁ gs' hb hv)⟩
end Mine
end

/-! Gn4 -/
section
open PySem PySem.W PyProof.Rows PySem.Calls
set_option maxRecDepth 100000
namespace Mine
section
variable (prog : Program) (w : World) (h₁ : Heap) (Mu : Addr → Prop) (env : PySem.Env) (s₀ : Shared) (H₀ : PHeap) (b : List UInt8) (items : List SItem)
structure GenSt (A : Around) (a g : Nat) (σ : Vars) (rest : List SItem) (s : Shared) : Prop where
  isgen : s.heap.IsGen a g
  fb : FB prog w h₁ Mu gsc env σ s₀ H₀ s H₀
  gen : ∃ gs, s.gens[g]? = some gs ∧ ∀ s'', FB prog w h₁ Mu gsc env σ s₀ H₀ s'' H₀ → gs.Goes (model prog w) A (gR prog w h₁ Mu env s₀ H₀) (gY prog w h₁ Mu env s₀ H₀ b items) rest.length (.send .none) s''
/-- what the list under way holds -/
structure Acc (L : Addr) (s : Shared) (H : PHeap) (vs : List Value) (ps : List PV) : Prop where
  sub : SubH H s.heap
  grow : Grow H₀ H
  fresh : ∀ a o, H a = some o → H₀ a = some o ∨ s₀.heap.get? a = none
  off : ∀ a, Mu a → H a = none
  offL : H L = none
  rep : RepL prog w H vs ps
  lst : ∃ c, s.heap.get? L = some { cls := .type "list", dict := none, data := .seq vs.toArray c, slots := #[] }
end
variable {prog : Program} {w : World} {h₁ : Heap} {n : Nat} {A : Around} {E : Value → Shared → Prop} {s s' s'' : Shared} {H H' : PHeap} {b : List UInt8} {env : PySem.Env} {sc : Scope} {Mu Mu' : Addr → Prop} {σ σ' : Vars} {s₀ : Shared} {H₀ : PHeap} {items pre rest : List SItem} {vs : List Value} {ps ws : List PV} {x : SItem} {a g L : Addr}

theorem gn_item (G : GenSt prog w h₁ Mu env s₀ H₀ b items A.in1 a g σ (x :: rest) s) (ha : ¬ Mu a) (hg0 : g < s₀.gens.size) (lim : h₁.NoLimit) (hh : A.handled = none) (hroom : A.depth < recursionLimit) (hp : items = pre ++ x :: rest) {Q : Option Value → Shared → Prop}
    (q : ∀ v s₁ σ', GenSt prog w h₁ Mu env s₀ H₀ b items A.in1 a g σ' rest s₁ → TupNew prog w H₀ s s₁ v (spV x) → GMove Mu s s₁ → Q (some v) s₁) : wpAny (model prog w) A (pyNext (.ref a)) Q E s := by
  obtain ⟨gs, hgs, go⟩ := G.gen
  refine next_genQ (P := fun n s s₁ => n = 0 ∧ GMove Mu s s₁ ∧ FB prog w h₁ Mu gsc env [] s₀ H₀ s₁ H₀) hh (lim.keeps G.fb.base.keep) hroom G.isgen hgs (go _ (G.fb.regen rfl)) (fun v s₁ gs' hb hv => ?_) fun s₁ hp => absurd hp.1 (by rw [List.length_cons]; omega)
  obtain ⟨it, hit, tn, mv, fb, hk⟩ := hv
  rw [hp, List.length_cons, List.length_append, List.length_cons, show pre.length + (rest.length + 1) - 1 - (rest.length + 1 - 1) = pre.length by omega, List.getElem?_append_right (Nat.le_refl _), Nat.sub_self] at hit
  cases hit
  obtain ⟨o, n1, n2, ho, r⟩ := G.isgen
  have sz : g < s₁.gens.size := Nat.lt_of_lt_of_le hg0 fb.mid.same.2.2
  exact q v _ _ ⟨⟨o, n1, n2, mv a o ha ho, r⟩, fb.regen hb, gs', setGen_at sz, fun s'' f => hk s'' f⟩ tn mv
theorem gn_done (G : GenSt prog w h₁ Mu env s₀ H₀ b items A.in1 a g σ [] s) (lim : h₁.NoLimit) (hh : A.handled = none) (hroom : A.depth < recursionLimit) {Q : Option Value → Shared → Prop}
    (q : ∀ s₁, FB prog w h₁ Mu gsc env [] s₀ H₀ s₁ H₀ → GMove Mu s s₁ → Q none s₁) : wpAny (model prog w) A (pyNext (.ref a)) Q E s := by
  obtain ⟨gs, hgs, go⟩ := G.gen
  refine next_genQ (P := fun n s s₁ => n = 0 ∧ GMove Mu s s₁ ∧ FB prog w h₁ Mu gsc env [] s₀ H₀ s₁ H₀) hh (lim.keeps G.fb.base.keep) hroom G.isgen hgs (go _ (G.fb.regen rfl)) (fun v s₁ gs' hb hv => ?_) fun s₁ hp h' k => ?_
  · obtain ⟨it, hit, tn, mv, fb, hk⟩ := hv
    exact (hk s₁ fb).elim
  · obtain ⟨_, mv, fb⟩ := hp
    refine q _ ((fb.regen (g := g) (X := .finished) rfl).forget (s' := { s₁.setGen g .finished with heap := h' }) ⟨rfl, id, Nat.le_refl _⟩ fun c o e => k c o e) fun c o hm e => k c o (mv c o hm e)

theorem Acc.item (C : Acc prog w Mu s₀ H₀ L s H vs ps) (fb : FB prog w h₁ Mu gsc env σ s₀ H₀ s H₀) (fb' : FB prog w h₁ Mu gsc env σ' s₀ H₀ s' H₀) (hL : ¬ Mu L) (h0 : s₀.heap.get? L = none) {v : Value} (tn : TupNew prog w H₀ s s' v ws) (mv : GMove Mu s s') {h' : Heap} {c' : Nat}
    (hs : ∀ c, c ≠ L → h'.get? c = s'.heap.get? c) (hl : h'.get? L = some { cls := .type "list", dict := none, data := .seq (vs ++ [v]).toArray c', slots := #[] }) :
    ∃ H', Acc prog w Mu s₀ H₀ L { s' with heap := h' } H' (vs ++ [v]) (ps ++ [.tup ws]) := by
  obtain ⟨c, o, us, m, rfl, hf, e, t1, t2, t3⟩ := tn
  obtain ⟨cl, hll⟩ := C.lst
  have hLn : ∀ o', H₀ L ≠ some o' := fun o' z => by rw [fb.base₀.sub _ _ z] at h0; cases h0
  have cL : c ≠ L := by
    rintro rfl
    rcases hf with z | z
    · exact hLn _ z
    · rw [z] at hll; cases hll
  have sub1 : SubH H h' := fun d o' z => by
    have dL : d ≠ L := fun q => by rw [q, C.offL] at z; cases z
    rw [hs d dL]
    exact mv d o' (fun q => by rw [C.off d q] at z; cases z) (C.sub d o' z)
  rcases hf with z | z
  · have hc : H c = some o := C.grow _ _ z
    exact ⟨H, sub1, C.grow, C.fresh, C.off, C.offL, C.rep.append (.cons (.tup hc t1 t2 (t3 _)) .nil), _, hl⟩
  · have cM : ¬ Mu c := fun q => by obtain ⟨o', z'⟩ := fb.mid.alive c q; rw [z] at z'; cases z'
    have c0 : s₀.heap.get? c = none := by
      cases q : s₀.heap.get? c with
      | none => rfl
      | some o' => rw [fb.mid.keep c o' cM q] at z; cases z
    have g' : Grow H (withObj H c o) := grow_with C.sub z o
    refine ⟨withObj H c o, fun d o' q => ?_, fun d o' q => g' d o' (C.grow d o' q), fun d o' q => ?_, fun d q => ?_, ?_, (C.rep.mono g').append (.cons (.tup (withObj_self _ _ _) t1 t2 (t3 _)) .nil), _, hl⟩
    · unfold withObj at q
      by_cases r : d = c
      · rw [if_pos r] at q; cases q; rw [r, hs c cL]; exact e
      · rw [if_neg r] at q; exact sub1 d o' q
    · unfold withObj at q
      by_cases r : d = c
      · rw [r]; exact .inr c0
      · rw [if_neg r] at q; exact C.fresh d o' q
    · unfold withObj
      rw [if_neg (show ¬ d = c from fun r => cM (r ▸ q))]; exact C.off d q
    · unfold withObj
      rw [if_neg (show ¬ L = c from fun r => cL r.symm)]; exact C.offL

theorem gn_extend (ha : ¬ Mu a) (hg0 : g < s₀.gens.size) (lim : h₁.NoLimit) (hh : A.handled = none) (hroom : A.depth < recursionLimit) (hL : ¬ Mu L) (h0 : s₀.heap.get? L = none) (hH : H₀ L = none) (haL : a ≠ L) {res : Value} {R : Result → Shared → Prop} :
    ∀ (rest pre : List SItem) (σ : Vars) (s : Shared) (vs : List Value) (ps : List PV) (H : PHeap), items = pre ++ rest → vs.length + rest.length ≤ 100000 → GenSt prog w h₁ Mu env s₀ H₀ b items A.in1.in1 a g σ rest s → Acc prog w Mu s₀ H₀ L s H vs ps →
    (∀ s' H' vs', FB prog w h₁ Mu gsc env [] s₀ H₀ s' H₀ → Acc prog w Mu s₀ H₀ L s' H' vs' (ps ++ rest.map fun x => .tup (spV x)) → R (.ok (.ret res)) s') →
    codeAny (model prog w) A (.builtin "list.extend.loop" ⟨[.ref L, .ref a, res], []⟩) R s := by
  intro rest
  induction rest with
  | nil =>
    intro pre σ s vs ps H hi hn G C q
    refine codeAny_builtin F.entry_extend_loop ?_
    rw [Around.under_plainId F.plain_extend_loop _]
    show wpAny _ A.in1 (pyNext (.ref a) >>= _) _ _ s
    refine wpAny_bind (gn_done (A := A.in1) G lim hh hroom fun s₁ fb mv => wpAny_pure ?_)
    obtain ⟨c, hl⟩ := C.lst
    refine q s₁ H vs fb ⟨fun d o e => mv d o (fun z => by rw [C.off d z] at e; cases e) (C.sub d o e), C.grow, C.fresh, C.off, C.offL, by rw [List.map_nil, List.append_nil]; exact C.rep, c, mv L _ hL hl⟩
  | cons x rest ih =>
    intro pre σ s vs ps H hi hn G C q
    refine codeAny_builtin F.entry_extend_loop ?_
    rw [Around.under_plainId F.plain_extend_loop _]
    show wpAny _ A.in1 (pyNext (.ref a) >>= _) _ _ s
    refine wpAny_bind (gn_item (A := A.in1) G ha hg0 lim hh hroom hi fun v s₁ σ' G' tn mv => ?_)
    obtain ⟨c, hl⟩ := C.lst
    have hl₁ := mv L _ hL hl
    rw [List.length_cons] at hn
    show wpAny _ A.in1 (updateSeq L (·.push v) >>= _) _ _ _
    have hl₂ := Heap.get?_update_self (Obj.mapSeq (·.push v)) hl₁ rfl
    have oth : ∀ d, d ≠ L → (s₁.heap.update L (Obj.mapSeq (·.push v))).get? d = s₁.heap.get? d := fun d h => Heap.get?_update_ne _ _ _ _ h
    obtain ⟨H₂, C₂⟩ := C.item (c' := _) G.fb G'.fb hL h0 tn mv oth (by rw [hl₂, ← List.push_toArray]; rfl)
    have fb₂ : FB prog w h₁ Mu gsc env σ' s₀ H₀ { s₁ with heap := s₁.heap.update L (Obj.mapSeq (·.push v)) } H₀ :=
      ⟨G'.fb.toBlk.other (t := s₁.toks) hL h0 hH (fun u ⟨o, ho, hd⟩ => by rw [hl₁] at ho; cases ho; cases hd) fun d o h e => (oth d h).trans e, G'.fb.fresh⟩
    obtain ⟨og, n1, n2, hog, rg⟩ := G'.isgen
    refine wpAny_bind (wpAny_updateSeq hl₁ rfl (wpAny_pure ⟨plainId_quiet F.plain_extend_loop _, ih (pre ++ [x]) σ' _ (vs ++ [v]) (ps ++ [.tup (spV x)]) H₂ ?_ ?_ ⟨⟨og, n1, n2, (oth a haL).trans hog, rg⟩, fb₂, G'.gen⟩ C₂ ?_⟩) ?_ ?_)
    · rw [hi, List.append_assoc]; rfl
    · rw [List.length_append]; simp only [List.length_cons, List.length_nil]; omega
    · intro s' H' vs' fb C'
      refine q s' H' vs' fb ?_
      rw [List.append_assoc] at C'
      exact C'
    · rw [List.size_toArray, sizeLine_eq]; omega
    · show (vs.toArray.push v).size ≤ _; rw [Array.size_push, List.size_toArray, sizeLine_eq]; omega

theorem gn_init (ha : ¬ Mu a) (hg0 : g < s₀.gens.size) (lim : h₁.NoLimit) (hh : A.handled = none) (hroom : A.depth < recursionLimit) (hL : ¬ Mu L) (h0 : s₀.heap.get? L = none) (hH : H₀ L = none) (haL : a ≠ L) {R : Result → Shared → Prop} (hn : items.length ≤ 100000)
    (G : GenSt prog w h₁ Mu env s₀ H₀ b items A.in1.in1 a g σ items s) (hl : s.heap.get? L = some { cls := .type "list", data := .seq #[] })
    (q : ∀ s' H' vs', FB prog w h₁ Mu gsc env [] s₀ H₀ s' H₀ → Acc prog w Mu s₀ H₀ L s' H' vs' (items.map fun x => .tup (spV x)) → R (.ok (.ret .none)) s') :
    wpAny (model prog w) A.in1 (Builtin.«list.__init__» ⟨[.ref L, .ref a], []⟩)
      (fun fin s' => match fin with | .done f => R (.ok f) s' | .again c' => c'.quiet = true ∧ codeAny (model prog w) A c' R s') (fun e s' => R (.error e) s') s := by
  have put : ∀ (s : Shared) (σ : Vars), GenSt prog w h₁ Mu env s₀ H₀ b items A.in1.in1 a g σ items s → (∃ xs n, s.heap.get? L = some { cls := .type "list", data := .seq xs n }) → ∀ f : Array Value → Array Value,
      GenSt prog w h₁ Mu env s₀ H₀ b items A.in1.in1 a g σ items { s with heap := s.heap.update L (Obj.mapSeq f) } := by
    intro s σ G ⟨xs, n, hl⟩ f
    obtain ⟨og, n1, n2, hog, rg⟩ := G.isgen
    have oth : ∀ d, d ≠ L → (s.heap.update L (Obj.mapSeq f)).get? d = s.heap.get? d := fun d h => Heap.get?_update_ne _ _ _ _ h
    exact ⟨⟨og, n1, n2, (oth a haL).trans hog, rg⟩, ⟨G.fb.toBlk.other (t := s.toks) hL h0 hH (fun u ⟨o, ho, hd⟩ => by rw [hl] at ho; cases ho; cases hd) fun d o h e => (oth d h).trans e, G.fb.fresh⟩, G.gen⟩
  show wpAny _ A.in1 (do let old ← Builtin.List.listItems (.ref L); Builtin.List.listUpdate (.ref L) (fun _ => #[]); letGo old.toList.reverse; Builtin.List.listExtendWith (.ref L) (.ref a) .none) _ _ s
  refine wpAny_bind ?_
  unfold Builtin.List.listItems
  refine wpAny_bind (wpAny_seqItems hl rfl (wpAny_pure ?_))
  show wpAny _ A.in1 (updateSeq L (fun _ => #[]) >>= fun _ => letGo (#[] : Array Value).toList.reverse >>= fun _ => Builtin.List.listExtendWith (.ref L) (.ref a) .none) _ _ s
  refine wpAny_bind (wpAny_updateSeq hl rfl ?_)
  have h2 := Heap.get?_update_self (Obj.mapSeq (fun _ => (#[] : Array Value))) hl rfl
  have G2 := put s σ G ⟨_, _, hl⟩ (fun _ => (#[] : Array Value))
  refine wpAny_bind (wpAny_letGo ?_)
  unfold Builtin.List.listExtendWith
  refine wpAny_bind (wpAny_typeOf G2.isgen.typeIs ?_)
  have e1 : Builtin.List.listSameRef (.ref L) (.ref a) = false := by simp [Builtin.List.listSameRef, Ne.symm haL]
  have e2 : (Value.type "generator" == Value.type "list") = false := by decide
  have e3 : (Value.type "generator" == Value.type "tuple") = false := by decide
  simp only [e1, e2, e3, Bool.or_false, Bool.false_eq_true, if_false]
  refine wpAny_bind (wpAny_pyIter_gen G2.isgen ?_)
  refine wpAny_bind (wpAny_holding ?_)
  unfold Builtin.List.listLengthHint
  refine wpAny_bind (wpAny_specialOf G2.isgen.typeIs F.gen_no_len ?_)
  show wpAny _ A.in1 (specialOf (Value.ref a) (Str.ofString "__length_hint__") >>= _) _ _ _
  refine wpAny_bind (wpAny_specialOf G2.isgen.typeIs F.gen_no_hint ?_)
  refine wpAny_pure ?_
  show wpAny _ A.in1 (rule "list.extend.makes-room" >>= fun _ => Builtin.List.listTouch (.ref L) >>= fun _ => again (.builtin "list.extend.loop" ⟨[.ref L, .ref a, .none], []⟩)) _ _ _
  refine wpAny_bind (wpAny_rule ?_)
  refine wpAny_bind ?_
  show wpAny _ A.in1 (updateSeq L (·.push .none) >>= fun _ => updateSeq L (·.pop)) _ _ _
  refine wpAny_bind (wpAny_updateSeq h2 rfl ?_)
  have h3 := Heap.get?_update_self (Obj.mapSeq (·.push Value.none)) h2 rfl
  have G3 := put _ σ G2 ⟨_, _, h2⟩ (·.push Value.none)
  refine wpAny_updateSeq (hz := by seq_fits) h3 rfl ?_
  have h4 := Heap.get?_update_self (Obj.mapSeq (·.pop)) h3 rfl
  have G4 := put _ σ G3 ⟨_, _, h3⟩ (·.pop)
  refine wpAny_pure ⟨plainId_quiet F.plain_extend_loop _, gn_extend ha hg0 lim hh hroom hL h0 hH haL items [] σ _ [] [] H₀ rfl (by simpa using hn) G4 ⟨G4.fb.mid.sub, fun _ _ e => e, fun _ _ e => .inl e, G4.fb.mid.off, hH, .nil, _, h4⟩ fun s' H' vs' fb C => q s' H' vs' fb (by simpa using C)⟩
end Mine
end

/-! Gn5 -/
section
open PySem PySem.W PyProof.Rows PySem.Calls
set_option maxRecDepth 100000
namespace Mine
variable {prog : Program} {w : World} {h₁ : Heap} {n : Nat} {A : Around} {E : Value → Shared → Prop} {s s' s'' : Shared} {H H' : PHeap} {b : List UInt8} {env : PySem.Env} {sc : Scope} {Mu Mu' : Addr → Prop} {σ σ' : Vars} {s₀ : Shared} {H₀ : PHeap} {items pre rest : List SItem} {x : SItem} {a g L : Addr} {K : Frag} {fa : Addr} {fd : FuncData}

theorem FB.ghost (b : FB prog w h₁ Mu sc env σ s H s' H) {s₂ : Shared} (ho : s₂.os = s'.os) (k : Keep s'.heap s₂.heap) : FB prog w h₁ Mu sc env σ { s with gens := s₂.gens } H s₂ H := by
  have b' := b.forget (s' := { s' with heap := s₂.heap, toks := s₂.toks }) (.upd _ _ _) k
  exact ⟨⟨⟨b'.base₀.keep, b'.base₀.seen, b'.base₀.sub⟩, ⟨⟨ho.trans b.mid.same.1, id, Nat.le_refl _⟩, b'.mid.keep, b'.mid.sub, b'.mid.grow, b'.mid.fresh, b'.mid.off, b'.mid.alive⟩, ⟨b'.fm.loc, b'.fm.ns, b'.fm.cel, b'.fm.apart⟩, ⟨b'.vars.val, b'.vars.own, b'.vars.apart⟩⟩, b'.fresh⟩
theorem room_over0 (R : Room (n + 1) A) (body : List Stmt) (env : PySem.Env) : Room n (A.over (.func body env) []) := by
  refine ⟨R.handled, ?_, ?_⟩
  · have := R.depth
    show A.depth + 0 + 1 + n ≤ 900
    omega
  · have := R.units
    show A.units + 0 + 3 + 8 * n ≤ 9000
    omega
theorem room_over1 (R : Room (n + 1) A) (body : List Stmt) (env : PySem.Env) (T : Expr) (B O : List Stmt) (k : Result → Sem PySem.Fin) (p : Pos) : Room n (A.over (.whileLoop T B O env) [.ret k none false [] (.func body env) p []]) := by
  refine ⟨R.handled, ?_, ?_⟩
  · have := R.depth
    show A.depth + 1 + 0 + n ≤ 900
    omega
  · have := R.units
    show A.units + 3 + 0 + 8 * n ≤ 9000
    omega
theorem Room.in1 (R : Room (n + 1) A) : Room n A.in1 := ⟨R.handled, by have := R.depth; show A.depth + n ≤ 900; omega, by have := R.units; show A.units + 1 + 8 * n ≤ 9000; omega⟩

theorem gn_seg (TO : TblOk prog w h₁ n TG) (ok : EnvOk gsc env) (R : Room (n + 1) A) (hl : b.length ≤ 100000) (hco : env.scope.isCoroutine = false) (fb : FB prog w h₁ Mu gsc env [(nm "script", .val (.bytes b))] s₀ H₀ s H₀) :
    Seg (model prog w) A (gR prog w h₁ Mu env s₀ H₀) (gY prog w h₁ Mu env s₀ H₀ b (spans b (b.length + 1) 0)) (spans b (b.length + 1) 0).length s (.func (bodyOf "op_code_spans") env) ((model prog w).den (.func (bodyOf "op_code_spans") env)) [] s := by
  obtain ⟨p1, p2, p3, p4, q1, q2, q3, q4, q5, q6, e, e2⟩ := gn_body
  have SX : ∀ {s₀ H₀}, SndX prog w h₁ n gsc env s₀ H₀ (exN TG gsc 16 4000 8) := exN_sound TO ok 15 4000 8
  refine seg_func (seg_of_execs e (seg_execs_cons (seg_wrap (stmt_step SX (room_over0 R _ _) (P := fun f σ' => f = .next ∧ σ' = gS b 0 []) (fun k hk => ?_) fb (fun fl f σ' Mu₂ s₂ H₂ fb₂ st₂ m P => ?_) fun v p σ' s' H' _ _ P => nomatch P.1))))
  · have := gn_st0 b k
    rw [e] at this
    exact this.trans (hk _ _ ⟨rfl, rfl⟩)
  obtain ⟨rfl, rfl⟩ := P
  cases m
  refine seg_execs_cons (seg_While fun p => ?_)
  refine gn_loop (A := A) (n := n) (items := spans b (b.length + 1) 0) TO ok e2 (fun s s₁ h => ?_) (fun T B O => room_over1 R _ _ _ _ _ _ _) hl (not_inter ok) hco (b.length + 1) 0 [] [] s s₂ rfl (by omega) (Nat.zero_le _) (fb.back fb₂ st₂.sub (gS_flat fun x q h => nomatch h)) st₂.keep fun a h => ?_
  · exact seg_end (.ok (.ret .none)) h
  · cases q : s.heap.get? a with
    | none => rfl
    | some o => obtain ⟨o', z⟩ := st₂.live a o q; rw [h] at z; cases z

/-- the generator, made -/
structure Made (prog : Program) (w : World) (h₁ : Heap) (b : List UInt8) (A : Around) (s : Shared) (H : PHeap) (a : Addr) (s₁ : Shared) : Prop where
  state : ∃ Mu env g, ¬ Mu a ∧ g < s₁.gens.size ∧ GenSt prog w h₁ Mu env { s with gens := s₁.gens } H b (spans b (b.length + 1) 0) A a g [(nm "script", .val (.bytes b))] (spans b (b.length + 1) 0) s₁
  bare : AllBare s.gens → AllBare s₁.gens
  size : s.gens.size ≤ s₁.gens.size

theorem spans_call (X : K.In h₁) (lim : h₁.NoLimit) (F : FnAt K fa (parOf "op_code_spans") (bodyOf "op_code_spans") gsc fd) (hd : fd.defaults = .none) (hk : fd.kwdefaults = .none) (hb : Simple (parOf "op_code_spans") [nm "script"]) (TO : TblOk prog w h₁ n TG)
    (R : Room (n + 4) A) (g : Base h₁ H s) {v : Value} (hv : Rep prog w H v (.bytes b)) (hl : b.length ≤ 100000) {Q : Value → Shared → Prop} (q : ∀ a s₁, Made prog w h₁ b A.in1.in1.in1 s H a s₁ → Q (.ref a) s₁) : wpAny (model prog w) A (call (.ref fa) [v]) Q E s := by
  obtain ⟨o, ho, hod⟩ := F.get X
  have hs := F.scope
  refine wpAny_call (codeAny_call_generator (R.less (m := n) (by omega)).lim (g.keep _ _ ho) hod (by rw [hs]; kernel_rfl) (by rw [hs]; kernel_rfl) F.body ((codeRec_of X F.code).keeps g.keep) ?_)
  rw [hb fd [v] F.params hd hk rfl]
  refine wpAny_pure ?_
  rw [F.clo]
  refine frame_open3 (pb := [(nm "script", .bytes b)]) (lim.keeps g.keep) F.glob F.blt (by rw [hs]; kernel_rfl) (.cons hv .nil) g fun env Mu s₁ ok hes fb => ?_
  rw [hs] at ok fb hes
  have kp : ∀ o : Obj, Keep s₁.heap (s₁.heap.push o) := fun o => .push _ _
  show Q (.ref s₁.heap.objs.size) _
  refine q _ _ ⟨⟨Mu, env, s₁.gens.size, fun hm => ?_, by simp, ⟨⟨_, _, _, Heap.get?_push_size _ rfl, rfl, rfl, rfl⟩, fb.ghost rfl (kp _), .fresh (.func (bodyOf "op_code_spans") env), by simp, fun s'' f => ⟨rfl, gn_seg TO ok (R.less (m := n + 4) (by omega)).in1.in1.in1 hl ?_ f⟩⟩⟩, fun h => ?_, ?_⟩
  · obtain ⟨o, z⟩ := fb.mid.alive _ hm
    rw [get_size_none] at z; cases z
  · rw [hes]; kernel_rfl
  · exact (fb.mid.same.2.1 h).push rfl
  · have := fb.mid.same.2.2
    show _ ≤ (Array.push _ _).size
    rw [Array.size_push]; omega

theorem spans_list (lim : h₁.NoLimit) (R : Room 1 A) (M : Made prog w h₁ b A.in1.in1.in1 s H a s') (hl : b.length ≤ 90000) {Q : Value → Shared → Prop}
    (q : ∀ L s₂ H₂, After s H s₂ H₂ → Rep prog w H₂ (.ref L) (.lst ((spans b (b.length + 1) 0).map fun x => .tup (spV x))) → Q (.ref L) s₂) : wpAny (model prog w) A (call (.type "list") [.ref a]) Q E s' := by
  obtain ⟨⟨Mu, env, g, ha, hg, G⟩, hbare, hsz⟩ := M
  have hLn := get_size_none s'.heap
  have hL : ¬ Mu s'.heap.objs.size := fun hm => by obtain ⟨o, z⟩ := G.fb.mid.alive _ hm; rw [hLn] at z; cases z
  have h0 : s.heap.get? s'.heap.objs.size = none := by
    cases z : s.heap.get? s'.heap.objs.size with
    | none => rfl
    | some o => have := G.fb.mid.keep _ o hL z; rw [hLn] at this; cases this
  have hH : H s'.heap.objs.size = none := by
    cases z : H s'.heap.objs.size with
    | none => rfl
    | some o => have := G.fb.mid.sub _ o z; rw [hLn] at this; cases this
  have haL : a ≠ s'.heap.objs.size := fun z => by obtain ⟨o, _, _, e, _⟩ := G.isgen; rw [z, hLn] at e; cases e
  have len : ∀ m i, (spans b m i).length ≤ m := by
    intro m
    induction m with
    | zero => intro i; exact Nat.le_refl _
    | succ m ih =>
      intro i
      rw [spans]
      cases rdP b i with
      | none => exact Nat.zero_le _
      | some z => exact Nat.succ_le_succ (ih z.2)
  refine callType_codes (Q₁ := fun obj s₁ => obj = .ref s'.heap.objs.size ∧ s₁ = { s' with heap := s'.heap.push { cls := .type "list", data := .seq #[] } }) F.called_list (F.typeCall_list_1 _) F.entry_list_init (code_list_new _ ⟨rfl, rfl⟩) fun obj s₁ hs₁ => ?_
  obtain ⟨rfl, rfl⟩ := hs₁
  have hS : (s'.heap.push { cls := .type "list", data := .seq #[] }).get? s'.heap.objs.size = some { cls := .type "list", data := .seq #[] } := Heap.get?_push_size _ rfl
  refine ⟨⟨_, hS, rfl⟩, F.args_list_init_2 _ _, gn_init (A := A.in1) (g := g) (s₀ := { s with gens := s'.gens }) (H₀ := H) (items := spans b (b.length + 1) 0) (Mu := Mu) (env := env) ha hg lim R.handled (R.less (m := 0) (by omega)).lim hL h0 hH haL (Nat.le_trans (len _ _) (by omega)) ⟨G.isgen.push _, G.fb.forget (.upd _ _ _) (.push _ _), G.gen⟩ hS fun s₂ H₂ vs' fb C => ?_⟩
  refine ⟨rfl, ?_⟩
  obtain ⟨c, hl⟩ := C.lst
  have g' : Grow H₂ (withObj H₂ s'.heap.objs.size { cls := .type "list", dict := none, data := .seq vs'.toArray c, slots := #[] }) := fun d o e => by
    unfold withObj
    by_cases r : d = s'.heap.objs.size
    · rw [r, C.offL] at e; cases e
    · rw [if_neg r]; exact e
  refine q _ _ (withObj H₂ s'.heap.objs.size _) ⟨⟨fb.mid.same.1, fun h => fb.mid.same.2.1 (hbare h), Nat.le_trans hsz fb.mid.same.2.2⟩, fb.finish.keep, fun d o e => ?_, fun d o e => g' d o (C.grow d o e), fun d o e => ?_⟩ (.lst (withObj_self _ _ _) rfl rfl (C.rep.mono g'))
  · unfold withObj at e
    by_cases r : d = s'.heap.objs.size
    · rw [if_pos r] at e; cases e; rw [r]; exact hl
    · rw [if_neg r] at e; exact C.sub d o e
  · unfold withObj at e
    by_cases r : d = s'.heap.objs.size
    · rw [r]; exact .inr h0
    · rw [if_neg r] at e; exact C.fresh d o e
end Mine
end

/-! Fa1 -/
section
open PySem PySem.W PyProof.Rows
set_option maxRecDepth 100000
namespace Mine
variable {prog : Program} {w : World} {h₁ : Heap} {n : Nat} {K : Frag}

/-- what the head gives besides the fragment -/
structure Gnd (K : Frag) (h₁ : Heap) : Prop where
  X : K.In h₁
  lim : h₁.NoLimit
  ns : ∃ mg mb, h₁.Ns mainGlobals mg ∧ h₁.Ns builtinsNs mb ∧ ∀ x : Str, x ≠ "__name__" → mb x = bootBuiltins x
theorem Gnd.ns2 (G : Gnd K h₁) : ∃ mg mb, h₁.Ns mainGlobals mg ∧ h₁.Ns builtinsNs mb := let ⟨mg, mb, a, b, _⟩ := G.ns; ⟨mg, mb, a, b⟩
theorem globD (A : AllK w K) (G : Gnd K h₁) {f : String} (hf : f ∈ defN) : GlobIs h₁ (nm f) (.ref (globK K (nm f))) := by
  have := List.all_eq_true.mp A.defs f hf
  exact glob_of G.X G.ns2 (eq_of_beq (and_split this).2)
theorem fnAtD (A : AllK w K) {f : String} (hf : f ∈ defN) : FnAt K (globK K (nm f)) (parOf f) (bodyOf f) (scOf f) (fnK K (globK K (nm f))) := by
  have := List.all_eq_true.mp A.defs f hf
  obtain ⟨b1, b2, b3⟩ := A.body f hf
  exact fnAt_of (and_split this).1 b2 b1 b3
theorem dflD (A : AllK w K) {f : String} (hf : f ∈ simpN) : (fnK K (globK K (nm f))).defaults = .none ∧ (fnK K (globK K (nm f))).kwdefaults = .none := by
  have := List.all_eq_true.mp A.simp f hf
  exact ⟨eq_of_beq (and_split this).1, eq_of_beq (and_split this).2⟩
theorem globB (A : AllK w K) (G : Gnd K h₁) {x : String} {v : Value} (hx : (x, v) ∈ blt) : GlobIs h₁ (nm x) v := by
  have := List.all_eq_true.mp A.blts _ hx
  obtain ⟨a, b⟩ := and_split this
  obtain ⟨c, d⟩ := and_split b
  obtain ⟨mg, mb, g1, g2, g3⟩ := G.ns
  refine ⟨mg, mb, g1, g2, .inr ⟨mg_none_of G.X g1 (eq_of_beq a), ?_⟩⟩
  rw [g3 _ fun z => by rw [z] at d; exact absurd d (by decide)]
  exact eq_of_beq c
theorem globI (G : Gnd K h₁) {x : Str} {i : Int} (e : iAt K x = some i) : ∃ t, GlobIs h₁ x (.int i t) := by
  unfold iAt at e
  split at e
  · rename_i j t q; cases e; exact ⟨t, glob_of G.X G.ns2 q⟩
  · cases e
theorem globS (G : Gnd K h₁) {x y : Str} (e : sAt K x = some y) : ∃ t, GlobIs h₁ x (.str y t) := by
  unfold sAt at e
  split at e
  · rename_i j t q; cases e; exact ⟨t, glob_of G.X G.ns2 q⟩
  · cases e

/-! the tables -/
theorem kI_some {e : DictEntry} {k h : Int} {x : Str} (q : kI e = some (k, h, x)) : e.hash = h ∧ (∃ t, e.key = .int k t) ∧ ∃ u, e.val = .str x u := by
  unfold kI at q
  split at q
  · cases q; exact ⟨rfl, ⟨_, rfl⟩, _, rfl⟩
  · cases q
theorem kS_some {e : DictEntry} {k : Str} {h : Int} {x : List UInt8} (q : kS e = some (k, h, x)) : e.hash = h ∧ (∃ t, e.key = .str k t) ∧ ∃ u, e.val = .bytes x.toArray u := by
  unfold kS at q
  split at q
  · cases q; exact ⟨rfl, ⟨_, rfl⟩, _, rfl⟩
  · cases q
theorem tabI : ∀ {es : List DictEntry} {l : List (Int × Str)}, es.map kI = l.map (fun p => some (p.1, hashInt p.1, p.2)) → (∀ e ∈ es, ∃ k, Value.isInt k e.key = true ∧ e.hash = hashInt k) ∧ ∀ k, TextAt ((es.find? fun e => Value.isInt k e.key).map (·.val)) (l.lookup k)
  | [], [], _ => ⟨(fun _ h => nomatch h), fun _ => rfl⟩
  | [], _ :: _, h => by cases h
  | _ :: _, [], h => by cases h
  | e :: es, (k, x) :: l, h => by
    rw [List.map_cons, List.map_cons] at h
    have h1 : kI e = some (k, hashInt k, x) := by injection h
    have h2 : es.map kI = l.map (fun p => some (p.1, hashInt p.1, p.2)) := by injection h
    obtain ⟨a, ⟨t, b⟩, u, c⟩ := kI_some h1
    obtain ⟨i1, i2⟩ := tabI h2
    refine ⟨fun e' he => ?_, fun k' => ?_⟩
    · cases he with
      | head => exact ⟨k, by rw [b]; simp [Value.isInt], a⟩
      | tail _ he => exact i1 e' he
    · rw [List.find?_cons, b]
      show TextAt (Option.map _ (match (k == k') with | true => some e | false => es.find? _)) (match (k' == k) with | true => some x | false => l.lookup k')
      by_cases q : k = k'
      · subst q
        rw [beq_self_eq_true]
        exact ⟨u, by rw [← c]; rfl⟩
      · rw [beq_false_of_ne q, beq_false_of_ne (Ne.symm q)]
        exact i2 k'
theorem tabS : ∀ {es : List DictEntry} {l : List (Str × List UInt8)}, es.map kS = l.map (fun p => some (p.1, hashStr w p.1, p.2)) → (∀ e ∈ es, ∃ k, Value.isStrOf k e.key = true ∧ e.hash = hashStr w k) ∧ ∀ k, BytesAt ((es.find? fun e => Value.isStrOf k e.key).map (·.val)) (l.lookup k)
  | [], [], _ => ⟨(fun _ h => nomatch h), fun _ => rfl⟩
  | [], _ :: _, h => by cases h
  | _ :: _, [], h => by cases h
  | e :: es, (k, x) :: l, h => by
    rw [List.map_cons, List.map_cons] at h
    have h1 : kS e = some (k, hashStr w k, x) := by injection h
    have h2 : es.map kS = l.map (fun p => some (p.1, hashStr w p.1, p.2)) := by injection h
    obtain ⟨a, ⟨t, b⟩, u, c⟩ := kS_some h1
    obtain ⟨i1, i2⟩ := tabS h2
    refine ⟨fun e' he => ?_, fun k' => ?_⟩
    · cases he with
      | head => exact ⟨k, by rw [b]; simp [Value.isStrOf], a⟩
      | tail _ he => exact i1 e' he
    · rw [List.find?_cons, b]
      show BytesAt (Option.map _ (match (k == k') with | true => some e | false => es.find? _)) (match (k' == k) with | true => some x | false => l.lookup k')
      by_cases q : k = k'
      · subst q
        rw [beq_self_eq_true]
        exact ⟨u, by rw [← c]; rfl⟩
      · rw [beq_false_of_ne q, beq_false_of_ne (Ne.symm q)]
        exact i2 k'
theorem dict_of {x : Str} (h : dPlain K x = true) : PySem.W.nsIn K mainGlobals x = some (some (.ref (globK K x))) ∧ globK K x ≠ sysModules ∧ ∃ es m, K.lookup (globK K x) = some ⟨.type "dict", none, .dict es m, #[]⟩ ∧ dAt K x = es.toList := by
  unfold dPlain at h
  obtain ⟨h, h2⟩ := and_split h
  obtain ⟨h0, h1⟩ := and_split h
  refine ⟨eq_of_beq h0, of_decide_eq_true h1, ?_⟩
  split at h2
  · rename_i c d es m sl q
    obtain ⟨h3, h5⟩ := and_split h2
    obtain ⟨h3, h4⟩ := and_split h3
    have h3 := eq_of_beq h3
    subst h3
    have h4 := Option.isNone_iff_eq_none.mp h4
    subst h4
    have h5 := Array.isEmpty_iff.mp h5
    subst h5
    refine ⟨es, m, q, ?_⟩
    unfold dAt; rw [q]
  · cases h2
theorem dictI (G : Gnd K h₁) {x : Str} {l : List (Int × Str)} (h : dPlain K x = true ∧ (dAt K x).map kI = l.map (fun p => some (p.1, hashInt p.1, p.2))) : ∃ v, GlobIs h₁ x v ∧ Rep prog w h₁.get? v (.dci l) := by
  obtain ⟨a, b, es, m, c, d⟩ := dict_of h.1
  rw [d] at h
  obtain ⟨t1, t2⟩ := tabI h.2
  refine ⟨_, glob_of G.X G.ns2 a, .dci (m := fun k => findBy Value.isInt es k) (G.X _ _ c) (beq_false_of_ne b) (fun h e => ⟨_, es, m, e, ⟨rfl, rfl, rfl⟩, rfl, fun e' he => t1 e' (by simpa using he), fun k => rfl⟩) fun k => ?_⟩
  show TextAt ((es.find? fun e => Value.isInt k e.key).map (·.val)) _
  rw [← Array.find?_toList]
  exact t2 k
theorem dictS (G : Gnd K h₁) {x : Str} {l : List (Str × List UInt8)} (h : dPlain K x = true ∧ (dAt K x).map kS = l.map (fun p => some (p.1, hashStr w p.1, p.2))) : ∃ v, GlobIs h₁ x v ∧ Rep prog w h₁.get? v (.dcs l) := by
  obtain ⟨a, b, es, m, c, d⟩ := dict_of h.1
  rw [d] at h
  obtain ⟨t1, t2⟩ := tabS (w := w) h.2
  refine ⟨_, glob_of G.X G.ns2 a, .dcs (m := fun k => findBy Value.isStrOf es k) (G.X _ _ c) (beq_false_of_ne b) (fun h e => ⟨_, es, m, e, ⟨rfl, rfl, rfl⟩, rfl, fun e' he => t1 e' (by simpa using he), fun k => rfl⟩) fun k => ?_⟩
  show BytesAt ((es.find? fun e => Value.isStrOf k e.key).map (·.val)) _
  rw [← Array.find?_toList]
  exact t2 k
theorem base_of (A : AllK w K) (G : Gnd K h₁) : BaseFacts prog w h₁ := by
  refine ⟨fun xp hx => ?_, globB A G (by simp [blt]), globB A G (by simp [blt]), globB A G (by simp [blt]), globB A G (by simp [blt]), globB A G (by simp [blt]), globB A G (by simp [blt]), globB A G (by simp [blt]), ⟨K, G.X, A.fb, A.fh⟩⟩
  simp only [gls, List.mem_cons, List.not_mem_nil, or_false] at hx
  have ty : ∀ {x : String} {T : String}, (x, Value.type T) ∈ blt → ∃ v, GlobIs h₁ (nm x) v ∧ Rep prog w h₁.get? v (.raw (.type T)) := fun h => ⟨_, globB A G h, .raw _⟩
  rcases hx with h | h | h | h | h | h | h | h | h | h | h | h | h | h | h | h <;> subst h <;> refine ⟨by unfold nameOk; decide, ?_⟩
  · exact ty (by simp [blt])
  · exact ty (by simp [blt])
  · exact ty (by simp [blt])
  · exact ty (by simp [blt])
  · exact ty (by simp [blt])
  · exact ty (by simp [blt])
  · exact ty (by simp [blt])
  · exact ty (by simp [blt])
  · obtain ⟨t, h⟩ := globI G A.n1; exact ⟨_, h, .int _ _⟩
  · obtain ⟨t, h⟩ := globI G A.n2; exact ⟨_, h, .int _ _⟩
  · obtain ⟨t, h⟩ := globI G A.n3; exact ⟨_, h, .int _ _⟩
  · obtain ⟨t, h⟩ := globS G A.n4; exact ⟨_, h, .str _ _⟩
  · exact dictI G A.d1
  · exact dictI G A.d2
  · exact dictS G A.d3
  · exact dictS G A.d4
end Mine
end

/-! Fa2 -/
section
open PySem PySem.W PyProof.Rows
set_option maxRecDepth 100000
namespace Mine
theorem simple_is_octets : Simple (parOf "is_octets") [nm "value"] := by
  intro fd vals hp hd hk hl
  obtain ⟨⟩ := fd
  dsimp only at hp hd hk
  subst hp hd hk
  rcases vals with _ | ⟨a, _ | ⟨z, l⟩⟩
  · exact absurd hl (show ¬ 0 = 1 by decide)
  · kernel_rfl
  · exact absurd hl (by intro h; have : (l.length + 2 : Nat) = 1 := h; omega)
theorem simple_op_int : Simple (parOf "op_int") [nm "i"] := by
  intro fd vals hp hd hk hl
  obtain ⟨⟩ := fd
  dsimp only at hp hd hk
  subst hp hd hk
  rcases vals with _ | ⟨a, _ | ⟨z, l⟩⟩
  · exact absurd hl (show ¬ 0 = 1 by decide)
  · kernel_rfl
  · exact absurd hl (by intro h; have : (l.length + 2 : Nat) = 1 := h; omega)
theorem simple_push_int : Simple (parOf "push_int") [nm "i"] := by
  intro fd vals hp hd hk hl
  obtain ⟨⟩ := fd
  dsimp only at hp hd hk
  subst hp hd hk
  rcases vals with _ | ⟨a, _ | ⟨z, l⟩⟩
  · exact absurd hl (show ¬ 0 = 1 by decide)
  · kernel_rfl
  · exact absurd hl (by intro h; have : (l.length + 2 : Nat) = 1 := h; omega)
theorem simple_is_integer : Simple (parOf "is_integer") [nm "value"] := by
  intro fd vals hp hd hk hl
  obtain ⟨⟩ := fd
  dsimp only at hp hd hk
  subst hp hd hk
  rcases vals with _ | ⟨a, _ | ⟨z, l⟩⟩
  · exact absurd hl (show ¬ 0 = 1 by decide)
  · kernel_rfl
  · exact absurd hl (by intro h; have : (l.length + 2 : Nat) = 1 := h; omega)
theorem simple_encode_num : Simple (parOf "encode_num") [nm "i"] := by
  intro fd vals hp hd hk hl
  obtain ⟨⟩ := fd
  dsimp only at hp hd hk
  subst hp hd hk
  rcases vals with _ | ⟨a, _ | ⟨z, l⟩⟩
  · exact absurd hl (show ¬ 0 = 1 by decide)
  · kernel_rfl
  · exact absurd hl (by intro h; have : (l.length + 2 : Nat) = 1 := h; omega)
theorem simple_serialize_int_command : Simple (parOf "_serialize_int_command") [nm "command"] := by
  intro fd vals hp hd hk hl
  obtain ⟨⟩ := fd
  dsimp only at hp hd hk
  subst hp hd hk
  rcases vals with _ | ⟨a, _ | ⟨z, l⟩⟩
  · exact absurd hl (show ¬ 0 = 1 by decide)
  · kernel_rfl
  · exact absurd hl (by intro h; have : (l.length + 2 : Nat) = 1 := h; omega)
theorem simple_assert_ascii_command : Simple (parOf "_assert_ascii_command") [nm "command"] := by
  intro fd vals hp hd hk hl
  obtain ⟨⟩ := fd
  dsimp only at hp hd hk
  subst hp hd hk
  rcases vals with _ | ⟨a, _ | ⟨z, l⟩⟩
  · exact absurd hl (show ¬ 0 = 1 by decide)
  · kernel_rfl
  · exact absurd hl (by intro h; have : (l.length + 2 : Nat) = 1 := h; omega)
theorem simple_serialize_str_command : Simple (parOf "_serialize_str_command") [nm "command"] := by
  intro fd vals hp hd hk hl
  obtain ⟨⟩ := fd
  dsimp only at hp hd hk
  subst hp hd hk
  rcases vals with _ | ⟨a, _ | ⟨z, l⟩⟩
  · exact absurd hl (show ¬ 0 = 1 by decide)
  · kernel_rfl
  · exact absurd hl (by intro h; have : (l.length + 2 : Nat) = 1 := h; omega)
theorem simple_serialize_bytes_command : Simple (parOf "_serialize_bytes_command") [nm "command"] := by
  intro fd vals hp hd hk hl
  obtain ⟨⟩ := fd
  dsimp only at hp hd hk
  subst hp hd hk
  rcases vals with _ | ⟨a, _ | ⟨z, l⟩⟩
  · exact absurd hl (show ¬ 0 = 1 by decide)
  · kernel_rfl
  · exact absurd hl (by intro h; have : (l.length + 2 : Nat) = 1 := h; omega)
theorem simple_pushdata : Simple (parOf "_pushdata") [nm "i", nm "length", nm "out"] := by
  intro fd vals hp hd hk hl
  obtain ⟨⟩ := fd
  dsimp only at hp hd hk
  subst hp hd hk
  rcases vals with _ | ⟨a, _ | ⟨b, _ | ⟨c, _ | ⟨z, l⟩⟩⟩⟩
  · exact absurd hl (show ¬ 0 = 3 by decide)
  · exact absurd hl (show ¬ 1 = 3 by decide)
  · exact absurd hl (show ¬ 2 = 3 by decide)
  · kernel_rfl
  · exact absurd hl (by intro h; have : (l.length + 4 : Nat) = 3 := h; omega)
theorem simple_serialize : Simple (parOf "serialize") [nm "script"] := by
  intro fd vals hp hd hk hl
  obtain ⟨⟩ := fd
  dsimp only at hp hd hk
  subst hp hd hk
  rcases vals with _ | ⟨a, _ | ⟨z, l⟩⟩
  · exact absurd hl (show ¬ 0 = 1 by decide)
  · kernel_rfl
  · exact absurd hl (by intro h; have : (l.length + 2 : Nat) = 1 := h; omega)
theorem simple_parse_push : Simple (parOf "_parse_push") [nm "s", nm "i"] := by
  intro fd vals hp hd hk hl
  obtain ⟨⟩ := fd
  dsimp only at hp hd hk
  subst hp hd hk
  rcases vals with _ | ⟨a, _ | ⟨b, _ | ⟨z, l⟩⟩⟩
  · exact absurd hl (show ¬ 0 = 2 by decide)
  · exact absurd hl (show ¬ 1 = 2 by decide)
  · kernel_rfl
  · exact absurd hl (by intro h; have : (l.length + 3 : Nat) = 2 := h; omega)
theorem simple_parse : Simple (parOf "parse") [nm "stream"] := by
  intro fd vals hp hd hk hl
  obtain ⟨⟩ := fd
  dsimp only at hp hd hk
  subst hp hd hk
  rcases vals with _ | ⟨a, _ | ⟨z, l⟩⟩
  · exact absurd hl (show ¬ 0 = 1 by decide)
  · kernel_rfl
  · exact absurd hl (by intro h; have : (l.length + 2 : Nat) = 1 := h; omega)
theorem simple_assert_type : Simple (parOf "assert_type") [nm "value", nm "expected", nm "what"] := by
  intro fd vals hp hd hk hl
  obtain ⟨⟩ := fd
  dsimp only at hp hd hk
  subst hp hd hk
  rcases vals with _ | ⟨a, _ | ⟨b, _ | ⟨c, _ | ⟨z, l⟩⟩⟩⟩
  · exact absurd hl (show ¬ 0 = 3 by decide)
  · exact absurd hl (show ¬ 1 = 3 by decide)
  · exact absurd hl (show ¬ 2 = 3 by decide)
  · kernel_rfl
  · exact absurd hl (by intro h; have : (l.length + 4 : Nat) = 3 := h; omega)
theorem simple_decode_num : Simple (parOf "decode_num") [nm "data"] := by
  intro fd vals hp hd hk hl
  obtain ⟨⟩ := fd
  dsimp only at hp hd hk
  subst hp hd hk
  rcases vals with _ | ⟨a, _ | ⟨z, l⟩⟩
  · exact absurd hl (show ¬ 0 = 1 by decide)
  · kernel_rfl
  · exact absurd hl (by intro h; have : (l.length + 2 : Nat) = 1 := h; omega)
theorem simple_core_op_code_name : Simple (parOf "_core_op_code_name") [nm "op_code"] := by
  intro fd vals hp hd hk hl
  obtain ⟨⟩ := fd
  dsimp only at hp hd hk
  subst hp hd hk
  rcases vals with _ | ⟨a, _ | ⟨z, l⟩⟩
  · exact absurd hl (show ¬ 0 = 1 by decide)
  · kernel_rfl
  · exact absurd hl (by intro h; have : (l.length + 2 : Nat) = 1 := h; omega)
theorem simple_is_valid_signature_encoding : Simple (parOf "_is_valid_signature_encoding") [nm "sig"] := by
  intro fd vals hp hd hk hl
  obtain ⟨⟩ := fd
  dsimp only at hp hd hk
  subst hp hd hk
  rcases vals with _ | ⟨a, _ | ⟨z, l⟩⟩
  · exact absurd hl (show ¬ 0 = 1 by decide)
  · kernel_rfl
  · exact absurd hl (by intro h; have : (l.length + 2 : Nat) = 1 := h; omega)
theorem simple_push_size : Simple (parOf "_push_size") [nm "script", nm "start"] := by
  intro fd vals hp hd hk hl
  obtain ⟨⟩ := fd
  dsimp only at hp hd hk
  subst hp hd hk
  rcases vals with _ | ⟨a, _ | ⟨b, _ | ⟨z, l⟩⟩⟩
  · exact absurd hl (show ¬ 0 = 2 by decide)
  · exact absurd hl (show ¬ 1 = 2 by decide)
  · kernel_rfl
  · exact absurd hl (by intro h; have : (l.length + 3 : Nat) = 2 := h; omega)
theorem simple_read_op_code : Simple (parOf "read_op_code") [nm "script", nm "start"] := by
  intro fd vals hp hd hk hl
  obtain ⟨⟩ := fd
  dsimp only at hp hd hk
  subst hp hd hk
  rcases vals with _ | ⟨a, _ | ⟨b, _ | ⟨z, l⟩⟩⟩
  · exact absurd hl (show ¬ 0 = 2 by decide)
  · exact absurd hl (show ¬ 1 = 2 by decide)
  · kernel_rfl
  · exact absurd hl (by intro h; have : (l.length + 3 : Nat) = 2 := h; omega)
theorem simple_op_code_spans : Simple (parOf "op_code_spans") [nm "script"] := by
  intro fd vals hp hd hk hl
  obtain ⟨⟩ := fd
  dsimp only at hp hd hk
  subst hp hd hk
  rcases vals with _ | ⟨a, _ | ⟨z, l⟩⟩
  · exact absurd hl (show ¬ 0 = 1 by decide)
  · kernel_rfl
  · exact absurd hl (by intro h; have : (l.length + 2 : Nat) = 1 := h; omega)
theorem simple_law_kinds : Simple (parOf "_law_kinds") [] := by
  intro fd vals hp hd hk hl
  obtain ⟨⟩ := fd
  dsimp only at hp hd hk
  subst hp hd hk
  rcases vals with _ | ⟨z, l⟩
  · kernel_rfl
  · exact absurd hl (by intro h; have : (l.length + 1 : Nat) = 0 := h; omega)
theorem simple_law_read : Simple (parOf "_law_read") [nm "code", nm "at"] := by
  intro fd vals hp hd hk hl
  obtain ⟨⟩ := fd
  dsimp only at hp hd hk
  subst hp hd hk
  rcases vals with _ | ⟨a, _ | ⟨b, _ | ⟨z, l⟩⟩⟩
  · exact absurd hl (show ¬ 0 = 2 by decide)
  · exact absurd hl (show ¬ 1 = 2 by decide)
  · kernel_rfl
  · exact absurd hl (by intro h; have : (l.length + 3 : Nat) = 2 := h; omega)
theorem simple_law_all : Simple (parOf "_law_all") [nm "code"] := by
  intro fd vals hp hd hk hl
  obtain ⟨⟩ := fd
  dsimp only at hp hd hk
  subst hp hd hk
  rcases vals with _ | ⟨a, _ | ⟨z, l⟩⟩
  · exact absurd hl (show ¬ 0 = 1 by decide)
  · kernel_rfl
  · exact absurd hl (by intro h; have : (l.length + 2 : Nat) = 1 := h; omega)
theorem simple_law_laid : Simple (parOf "_law_laid") [nm "octets"] := by
  intro fd vals hp hd hk hl
  obtain ⟨⟩ := fd
  dsimp only at hp hd hk
  subst hp hd hk
  rcases vals with _ | ⟨a, _ | ⟨z, l⟩⟩
  · exact absurd hl (show ¬ 0 = 1 by decide)
  · kernel_rfl
  · exact absurd hl (by intro h; have : (l.length + 2 : Nat) = 1 := h; omega)
theorem simple_law_octets : Simple (parOf "_law_octets") [nm "number"] := by
  intro fd vals hp hd hk hl
  obtain ⟨⟩ := fd
  dsimp only at hp hd hk
  subst hp hd hk
  rcases vals with _ | ⟨a, _ | ⟨z, l⟩⟩
  · exact absurd hl (show ¬ 0 = 1 by decide)
  · kernel_rfl
  · exact absurd hl (by intro h; have : (l.length + 2 : Nat) = 1 := h; omega)
theorem simple_law_number : Simple (parOf "_law_number") [nm "octets"] := by
  intro fd vals hp hd hk hl
  obtain ⟨⟩ := fd
  dsimp only at hp hd hk
  subst hp hd hk
  rcases vals with _ | ⟨a, _ | ⟨z, l⟩⟩
  · exact absurd hl (show ¬ 0 = 1 by decide)
  · kernel_rfl
  · exact absurd hl (by intro h; have : (l.length + 2 : Nat) = 1 := h; omega)
theorem simple_law_integer : Simple (parOf "_law_integer") [nm "octets"] := by
  intro fd vals hp hd hk hl
  obtain ⟨⟩ := fd
  dsimp only at hp hd hk
  subst hp hd hk
  rcases vals with _ | ⟨a, _ | ⟨z, l⟩⟩
  · exact absurd hl (show ¬ 0 = 1 by decide)
  · kernel_rfl
  · exact absurd hl (by intro h; have : (l.length + 2 : Nat) = 1 := h; omega)
theorem simple_law_signed : Simple (parOf "_law_signed") [nm "octets"] := by
  intro fd vals hp hd hk hl
  obtain ⟨⟩ := fd
  dsimp only at hp hd hk
  subst hp hd hk
  rcases vals with _ | ⟨a, _ | ⟨z, l⟩⟩
  · exact absurd hl (show ¬ 0 = 1 by decide)
  · kernel_rfl
  · exact absurd hl (by intro h; have : (l.length + 2 : Nat) = 1 := h; omega)
theorem simple_law_said : Simple (parOf "_law_said") [nm "code", nm "decoded"] := by
  intro fd vals hp hd hk hl
  obtain ⟨⟩ := fd
  dsimp only at hp hd hk
  subst hp hd hk
  rcases vals with _ | ⟨a, _ | ⟨b, _ | ⟨z, l⟩⟩⟩
  · exact absurd hl (show ¬ 0 = 2 by decide)
  · exact absurd hl (show ¬ 1 = 2 by decide)
  · kernel_rfl
  · exact absurd hl (by intro h; have : (l.length + 3 : Nat) = 2 := h; omega)
theorem simple_law_signature : Simple (parOf "_law_signature") [nm "number"] := by
  intro fd vals hp hd hk hl
  obtain ⟨⟩ := fd
  dsimp only at hp hd hk
  subst hp hd hk
  rcases vals with _ | ⟨a, _ | ⟨z, l⟩⟩
  · exact absurd hl (show ¬ 0 = 1 by decide)
  · kernel_rfl
  · exact absurd hl (by intro h; have : (l.length + 2 : Nat) = 1 := h; omega)
theorem simple_law_part : Simple (parOf "_law_part") [nm "number"] := by
  intro fd vals hp hd hk hl
  obtain ⟨⟩ := fd
  dsimp only at hp hd hk
  subst hp hd hk
  rcases vals with _ | ⟨a, _ | ⟨z, l⟩⟩
  · exact absurd hl (show ¬ 0 = 1 by decide)
  · kernel_rfl
  · exact absurd hl (by intro h; have : (l.length + 2 : Nat) = 1 := h; omega)
theorem simple_law_command : Simple (parOf "_law_command") [nm "number"] := by
  intro fd vals hp hd hk hl
  obtain ⟨⟩ := fd
  dsimp only at hp hd hk
  subst hp hd hk
  rcases vals with _ | ⟨a, _ | ⟨z, l⟩⟩
  · exact absurd hl (show ¬ 0 = 1 by decide)
  · kernel_rfl
  · exact absurd hl (by intro h; have : (l.length + 2 : Nat) = 1 := h; omega)
theorem simple_law : Simple (parOf "law") [nm "script"] := by
  intro fd vals hp hd hk hl
  obtain ⟨⟩ := fd
  dsimp only at hp hd hk
  subst hp hd hk
  rcases vals with _ | ⟨a, _ | ⟨z, l⟩⟩
  · exact absurd hl (show ¬ 0 = 1 by decide)
  · kernel_rfl
  · exact absurd hl (by intro h; have : (l.length + 2 : Nat) = 1 := h; omega)
theorem simple_bytesio_from_binarydata : Simple (parOf "bytesio_from_binarydata") [nm "stream"] := by
  intro fd vals hp hd hk hl
  obtain ⟨⟩ := fd
  dsimp only at hp hd hk
  subst hp hd hk
  rcases vals with _ | ⟨a, _ | ⟨z, l⟩⟩
  · exact absurd hl (show ¬ 0 = 1 by decide)
  · kernel_rfl
  · exact absurd hl (by intro h; have : (l.length + 2 : Nat) = 1 := h; omega)
theorem simple_index : Simple (parOf "_index") [nm "n", nm "what"] := by
  intro fd vals hp hd hk hl
  obtain ⟨⟩ := fd
  dsimp only at hp hd hk
  subst hp hd hk
  rcases vals with _ | ⟨a, _ | ⟨b, _ | ⟨z, l⟩⟩⟩
  · exact absurd hl (show ¬ 0 = 2 by decide)
  · exact absurd hl (show ¬ 1 = 2 by decide)
  · kernel_rfl
  · exact absurd hl (by intro h; have : (l.length + 3 : Nat) = 2 := h; omega)
end Mine
end

/-! Se1 -/
section
open PySem PySem.W PyProof.Rows PySem.Calls
set_option maxRecDepth 100000
namespace Mine
abbrev bsc : Scope := scOf "_serialize_bytes_command"
def stB (f : String) (i : Nat) : Stmt := (bodyOf f).getD i (.Pass ⟨0, 0, 0, 0⟩)
def orE : Stmt → Stmt
  | .If _ _ (e :: _) _ => e
  | s => s
def iT : Stmt → Expr
  | .If t _ _ _ => t
  | _ => default
def iB : Stmt → List Stmt
  | .If _ b _ _ => b
  | _ => []
def iE : Stmt → List Stmt
  | .If _ _ e _ => e
  | _ => []
theorem sb_body : ∃ p1 p2 p3 p4 q1 q2 q3 q4 q5 q6 q7 i1 r1 r2 r3 r4 r5 r6 r7 i2, bodyOf "_serialize_bytes_command" = [stB "_serialize_bytes_command" 0, stB "_serialize_bytes_command" 1, stB "_serialize_bytes_command" 2,
    .If (iT (stB "_serialize_bytes_command" 3)) (iB (stB "_serialize_bytes_command" 3)) [.If (iT (orE (stB "_serialize_bytes_command" 3))) [.Expr (.Call (.Name (nm "_pushdata") q1) [.Constant (.int 1) i1 q2, .Name (nm "length") q3, .Name (nm "out") q4] [] q5) q6]
      [.If (iT (orE (orE (stB "_serialize_bytes_command" 3)))) [.Expr (.Call (.Name (nm "_pushdata") r1) [.Constant (.int 2) i2 r2, .Name (nm "length") r3, .Name (nm "out") r4] [] r5) r6] (iE (orE (orE (stB "_serialize_bytes_command" 3)))) r7] q7] p1,
    stB "_serialize_bytes_command" 4, stB "_serialize_bytes_command" 5] ∧ p2 = p1 ∧ p3 = p1 ∧ p4 = p1 :=
  ⟨_, _, _, _, _, _, _, _, _, _, _, _, _, _, _, _, _, _, _, _, by with_unfolding_all rfl, rfl, rfl, rfl⟩
def pdT : Expr := match stB "_pushdata" 0 with
  | .Expr (.Call _ [t] _ _) _ => t
  | _ => default
theorem pd_body : ∃ p1 p2 p3 p4, bodyOf "_pushdata" = [.Expr (.Call (.Attribute (.Name (nm "out") p1) (nm "extend") p2) [pdT] [] p3) p4] ∧ p2.endLine = p3.line ∧ notStar pdT = true :=
  ⟨_, _, _, _, by with_unfolding_all rfl, by with_unfolding_all rfl, by with_unfolding_all rfl⟩
def pdS (i n : Int) (a : Addr) : Vars := [(nm "i", .val (.int i)), (nm "length", .val (.int n)), (nm "out", .val (.raw (.ref a)))]
theorem pd_ev1 (n : Int) (a : Addr) (k : K) : (evN base 16).ev (scOf "_pushdata") pdT (rdV (pdS 1 n a)) k = tobF n [.int 1] [(nm "byteorder", .str (nm "little")), (nm "signed", .bool false)] fun y => k (.tup [.bytes [76], y]) := by kernel_rfl
theorem pd_ev2 (n : Int) (a : Addr) (k : K) : (evN base 16).ev (scOf "_pushdata") pdT (rdV (pdS 2 n a)) k = tobF n [.int 2] [(nm "byteorder", .str (nm "little")), (nm "signed", .bool false)] fun y => k (.tup [.bytes [77], y]) := by kernel_rfl
def sbS (b : List UInt8) (l : List PV) : Vars := [(nm "command", .val (.bytes b)), (nm "out", .own l), (nm "length", .val (.int b.length))]
theorem sb012 (b : List UInt8) (k : KS) : exList (exN base bsc 16 4000 8) [stB "_serialize_bytes_command" 0, stB "_serialize_bytes_command" 1, stB "_serialize_bytes_command" 2] [(nm "command", .val (.bytes b))] k = lenB b fun _ => k .next (sbS b []) := by kernel_rfl
theorem sb_t1 (b : List UInt8) (l : List PV) (k : Bool → Option PV) : (evN base 16).tr bsc (iT (stB "_serialize_bytes_command" 3)) (rdA (sbS b l)) k = k (decide ((b.length : Int) < 76)) := by kernel_rfl
theorem sb_t2 (b : List UInt8) (l : List PV) (k : Bool → Option PV) : (evN base 16).tr bsc (iT (orE (stB "_serialize_bytes_command" 3))) (rdA (sbS b l)) k = k (decide ((b.length : Int) < 256)) := by kernel_rfl
theorem sb_t3 (b : List UInt8) (l : List PV) (k : Bool → Option PV) : (evN base 16).tr bsc (iT (orE (orE (stB "_serialize_bytes_command" 3)))) (rdA (sbS b l)) k = k (decide ((b.length : Int) < 65536)) := by kernel_rfl
theorem sb_b1 (b : List UInt8) (k : KS) : exList (exN base bsc 16 4000 8) (iB (stB "_serialize_bytes_command" 3)) (sbS b []) k = tobF b.length [.int 1] [(nm "byteorder", .str (nm "little")), (nm "signed", .bool false)] fun y => gate (lenOk 0) (k .next (sbS b [y])) := by kernel_rfl
theorem sb_end (b : List UInt8) (l : List PV) (k : KS) : exList (exN base bsc 16 4000 8) [stB "_serialize_bytes_command" 4, stB "_serialize_bytes_command" 5] (sbS b l) k = gate (lenOk l.length) (bjoinF [] [.lst (l ++ [.bytes b])] [] fun p => k (.ret p) (sbS b (l ++ [.bytes b]))) := by kernel_rfl
end Mine
end

/-! Se2 -/
section
open PySem PySem.W PyProof.Rows PySem.Calls
set_option maxRecDepth 100000
namespace Mine
variable {prog : Program} {w : World} {h₁ : Heap} {n : Nat} {A : Around} {E : Value → Shared → Prop} {s s' s'' : Shared} {H H' : PHeap} {b : List UInt8} {env : PySem.Env} {sc : Scope} {Mu Mu' : Addr → Prop} {σ σ' : Vars} {s₀ : Shared} {H₀ : PHeap} {a g L : Addr} {K : Frag} {fa : Addr} {fd : FuncData}

theorem tob_go {m j : Nat} (hj : j ≤ 1000) (h : m < 256 ^ j) (k : PV → Option PV) : tobF (m : Int) [.int (j : Int)] [(nm "byteorder", .str (nm "little")), (nm "signed", .bool false)] k = k (.bytes (leN j m)) := by
  unfold tobF
  dsimp only
  rw [Int.toNat_natCast, Int.toNat_natCast, decide_eq_true (show nm "byteorder" = sOrd from rfl), decide_eq_true (show nm "signed" = sSig from rfl), decide_eq_true (show nm "little" = sLit from rfl), decide_eq_true (show (0 : Int) ≤ (j : Int) by omega),
    decide_eq_true (show (j : Int) ≤ 1000 by omega), decide_eq_true (show (0 : Int) ≤ (m : Int) by omega), decide_eq_true h]
  exact gateT rfl
theorem pd_call {i : Int} {m : Nat} {op : UInt8} {ti tn : Tok} (hi : (i = 1 ∧ op = 76 ∧ m < 256) ∨ (i = 2 ∧ op = 77 ∧ m < 65536)) (X : K.In h₁) (lim : h₁.NoLimit) (TO : ∀ n, TblOk prog w h₁ n base) (Fn : FnAt K fa (parOf "_pushdata") (bodyOf "_pushdata") (scOf "_pushdata") fd) (hd : fd.defaults = .none) (hk : fd.kwdefaults = .none)
    (hb : Simple (parOf "_pushdata") [nm "i", nm "length", nm "out"]) (R : Room (n + 2) A) (g : Base h₁ H s) (hl : s.heap.PlainList a #[]) (hH : H a = none) {Q : Value → Shared → Prop}
    (q : ∀ s₂ H₂ h' t v1 v2, After s H s₂ H₂ → H₂ a = none → Heap.SameBut a s₂.heap h' → h'.PlainList a #[v1, v2] → Rep prog w H₂ v1 (.bytes [op]) → Rep prog w H₂ v2 (.bytes (leN i.toNat m)) → Q .none { s₂ with heap := h', toks := t }) :
    wpAny (model prog w) A (call (.ref fa) [.int i ti, .int m tn, .ref a]) Q E s := by
  obtain ⟨o, ho, hod⟩ := Fn.get X
  have hs := Fn.scope
  refine wpAny_call (code_open (n := n + 1) (pb := [(nm "i", .int i), (nm "length", .int m), (nm "out", .raw (.ref a))]) (g.keep _ _ ho) hod (lim.keeps g.keep) ((codeRec_of X Fn.code).keeps g.keep) Fn.body Fn.clo Fn.glob Fn.blt (by rw [hs]; kernel_rfl)
    (.of_eq (hb fd _ Fn.params hd hk rfl)) (.cons (.int _ _) (.cons (.int _ _) (.cons (.raw _) .nil))) R g fun env Mu s₁ ok R' fb => ?_)
  rw [hs] at ok fb
  rw [show valsOf [(nm "i", PV.int i), (nm "length", PV.int (m : Int)), (nm "out", PV.raw (.ref a))] = pdS i m a from rfl] at fb
  obtain ⟨p1, p2, p3, p4, e, e2, e3⟩ := pd_body
  rw [e]
  refine wpAny_execs_cons (wpAny_Expr_any ?_ (not_inter ok) (swaps_plain rfl _ _))
  obtain ⟨u, hu, hr⟩ := fb.read (y := nm "out") (q := .raw (.ref a)) rfl
  cases hr
  rw [arm_eval_Call, base_whole rfl]
  refine wpAny_bind (name_read ok.kind hu ?_)
  refine wpAny_bind (wpAny_standAt ?_)
  have htrees : backTo p3 (starEach [pdT] env) = [(false, eval pdT env)] := by rw [starEach_plain e3]; rfl
  have hform : methodCallForm (([pdT] : List Expr).length + ([] : List Keyword).length) (backTo p3 (starEach [pdT] env)) (backToKw p3 (keywordEach [] env)) = true := by rw [htrees]; rfl
  have hpos : methodCallPos true (.Name (nm "out") p1) env p2 p3 = pure p3 := by unfold methodCallPos; simp [e2]
  unfold methodCall
  rw [hform]
  have hl1 := hl.at (fb.finish.keep a)
  obtain ⟨n1, ho1⟩ := id hl1
  refine wpAny_bind (wpAny_holding (getMethod_list_of F.slot_list_extend F.type_list_extend hl1.isList ?_ ?_))
  · exact ⟨_, ho1, rfl⟩
  refine wpAny_bind (wpAny_of_eq hpos ?_)
  rw [htrees]
  refine Calls.callWith_builtin rfl (Calls.evalArgs_plain (Calls.spliced_cons ?_))
  have EV : EvOk prog w h₁ (n + 1) (evN base 16) := evN_sound (TO _) 16
  refine eval_step (EV _ _ _ ok).1 R' (P := fun p => p = .tup [.bytes [op], .bytes (leN i.toNat m)]) (fun k hk => ?_) fb.good fun v pv s₂ H₂ a₂ hv P => ?_
  · clear hform htrees hpos
    rcases hi with ⟨rfl, rfl, hm⟩ | ⟨rfl, rfl, hm⟩
    · rw [pd_ev1]
      exact (tob_go (j := 1) (by omega) (by omega) _).trans (hk _ rfl)
    · rw [pd_ev2]
      exact (tob_go (j := 2) (by omega) (by omega) _).trans (hk _ rfl)
  subst P
  refine Calls.spliced_nil ?_
  cases hv with
  | tup g1 g2 g3 g4 =>
  rename_i c o2 vs2 n2
  have A2 := fb.finish.trans a₂
  have hc2 := a₂.sub _ _ g1
  rw [g2.2] at hc2
  have hl2 := hl1.at (a₂.keep a)
  obtain ⟨n3, ho3⟩ := id hl2
  have len2 := g4.length
  cases g4 with
  | cons r1 g4 =>
  cases g4 with
  | cons r2 g4 =>
  cases g4
  rename_i v1 v2
  have hu3 := Heap.get?_update_self (Obj.mapSeq fun x => x ++ #[v1, v2]) ho3 rfl
  refine call_meets F.slot_list_extend ⟨_, ho3, rfl⟩ F.entry_list_extend (F.args_list_extend_2 _ _) (AutoSeq1.list_extend_list_tuple_0 a #[] n3 c #[v1, v2] 0 (by simp) (by simp) (by simp [sizeLine_eq])) ⟨ho3, hc2, ?_⟩
  refine wpAny_execs_nil ?_
  refine q s₂ H₂ _ s₂.toks _ _ A2 ?_ (Heap.SameBut.update ..) ⟨_, hu3⟩ r1 r2
  · cases z : H₂ a with
    | none => rfl
    | some o =>
      rcases A2.fresh _ _ z with y | y
      · rw [hH] at y; cases y
      · obtain ⟨n0, y0⟩ := hl; rw [y0] at y; cases y
end Mine
end

/-! Se3 -/
section
open PySem PySem.W PyProof.Rows PySem.Calls
set_option maxRecDepth 100000
namespace Mine
variable {prog : Program} {w : World} {h₁ : Heap} {n : Nat} {A : Around} {E : Value → Shared → Prop} {s s' s'' : Shared} {H H' : PHeap} {b : List UInt8} {env : PySem.Env} {sc : Scope} {Mu Mu' : Addr → Prop} {σ σ' : Vars} {s₀ : Shared} {H₀ : PHeap} {a g L : Addr} {K : Frag} {fa : Addr} {fd : FuncData}

structure PdK (prog : Program) (w : World) (h₁ : Heap) (K : Frag) : Prop where
  X : K.In h₁
  lim : h₁.NoLimit
  base : ∀ n, TblOk prog w h₁ n Mine.base
  push : ∃ fa fd, GlobIs h₁ (nm "_pushdata") (.ref fa) ∧ FnAt K fa (parOf "_pushdata") (bodyOf "_pushdata") (scOf "_pushdata") fd ∧ fd.defaults = .none ∧ fd.kwdefaults = .none
  simple : Simple (parOf "_pushdata") [nm "i", nm "length", nm "out"]

theorem sbS_put (b : List UInt8) (l l' : List PV) : putV (sbS b l) (nm "out") (.own l') = sbS b l' := by kernel_rfl
/-- the statement «_pushdata(i, length, out)» -/
theorem pd_stmt (Z : PdK prog w h₁ K) (ok : EnvOk bsc env) {i : Int} {op : UInt8} {q1 q2 q3 q4 q5 q6 : Pos} {i1 : Nat} (hi : (i = 1 ∧ op = 76 ∧ b.length < 256) ∨ (i = 2 ∧ op = 77 ∧ b.length < 65536)) (fb : FB prog w h₁ Mu bsc env (sbS b []) s₀ H₀ s H) (R : Room (n + 2) A) {Q : Flow → Shared → Prop}
    (q : ∀ s₂ H₂, FB prog w h₁ Mu bsc env (sbS b [.bytes [op], .bytes (leN i.toNat b.length)]) s₀ H₀ s₂ H₂ → Q .next s₂) :
    wpAny (model prog w) A (exec (.Expr (.Call (.Name (nm "_pushdata") q1) [.Constant (.int i) i1 q2, .Name (nm "length") q3, .Name (nm "out") q4] [] q5) q6) env) Q E s := by
  obtain ⟨fa, fd, gfa, Fn, hd, hk⟩ := Z.push
  refine wpAny_Expr_any (wpAny_Call_Name_kw (name_glob ok (by kernel_rfl) (by unfold nameOk; decide) (gfa.keeps fb.base.keep) ?_)) (not_inter ok) (swaps_plain rfl _ _)
  refine callWith_of (P := K.In) rfl (keeps_K (keepIn_of Fn)) (Calls.evalArgs_plain (Calls.spliced_cons ?_))
  show wpAny _ _ (eval (.Constant (.int i) i1 q2) env) _ _ _
  refine wpAny_Constant_int ?_
  refine Calls.spliced_cons ?_
  have ft := fb.after (.tok (t := s.toks + 1) fb.base.sub)
  obtain ⟨vl, hvl, hrl⟩ := ft.read (y := nm "length") (q := .int b.length) rfl
  cases hrl
  obtain ⟨D, vs, hv, hm, hp, hr⟩ := ft.vars.own (nm "out") [] rfl
  cases hr
  refine name_read ok.kind hvl (Calls.spliced_cons (name_read ok.kind hv (Calls.spliced_nil ⟨Z.X.keeps ft.base.keep, ?_⟩)))
  refine pd_call (n := n) (op := op) hi Z.X Z.lim Z.base Fn hd hk Z.simple R ft.base hp (ft.mid.off D hm) fun s₂ H₂ h' t v1 v2 a₂ hD hs hl' r1 r2 => ?_
  have f2 := ft.after a₂
  have := f2.toBlk.change (t := t) (l' := [.bytes [op], .bytes (leN i.toNat b.length)]) (vs := []) (vs' := [v1, v2]) (x := nm "out") (l := []) rfl (hv.keeps a₂.keep) hm (hp.at (a₂.keep D)) hs hl' (.cons r1 (.cons r2 .nil))
  rw [sbS_put] at this
  exact q _ _ ⟨this, f2.fresh⟩
theorem leN1 {m : Nat} (h : m < 256) : leN 1 m = [m.toUInt8] := by unfold leN; rw [Nat.mod_eq_of_lt h]; rfl
theorem leN2 {m : Nat} (h : m < 65536) : leN 2 m = [(m % 256).toUInt8, (m / 256).toUInt8] := by
  unfold leN; rw [leN1 (by omega)]

theorem sb_call (Z : PdK prog w h₁ K) (F : FnAt K fa (parOf "_serialize_bytes_command") (bodyOf "_serialize_bytes_command") bsc fd) (hd : fd.defaults = .none) (hk : fd.kwdefaults = .none) (hb : Simple (parOf "_serialize_bytes_command") [nm "command"])
    (R : Room (n + 3) A) (g : Base h₁ H s) {v : Value} (hv : Rep prog w H v (.bytes b)) (hl : b.length < 65536) {Q : Value → Shared → Prop} (q : ∀ v' s' H', After s H s' H' → Rep prog w H' v' (.bytes (laidB b)) → Q v' s') :
    wpAny (model prog w) A (call (.ref fa) [v]) Q E s := by
  obtain ⟨o, ho, hod⟩ := F.get Z.X
  have hs := F.scope
  refine wpAny_call (code_open (n := n + 2) (pb := [(nm "command", .bytes b)]) (g.keep _ _ ho) hod (Z.lim.keeps g.keep) ((codeRec_of Z.X F.code).keeps g.keep) F.body F.clo F.glob F.blt (by rw [hs]; kernel_rfl)
    (.of_eq (hb fd _ F.params hd hk rfl)) (.cons hv .nil) R g fun env Mu s₁ ok R' fb => ?_)
  rw [hs] at ok fb
  have SX : ∀ {s₀ H₀}, SndX prog w h₁ (n + 2) bsc env s₀ H₀ (exN base bsc 16 4000 8) := exN_sound (Z.base _) ok 15 4000 8
  have EV : EvOk prog w h₁ (n + 2) (evN base 16) := evN_sound (Z.base _) 16
  obtain ⟨p1, p2, p3, p4, q1, q2, q3, q4, q5, q6, q7, i1, r1, r2, r3, r4, r5, r6, r7, i2, e, _⟩ := sb_body
  rw [e]
  refine seg_step SX R' (ss := [stB "_serialize_bytes_command" 0, stB "_serialize_bytes_command" 1, stB "_serialize_bytes_command" 2]) (P := fun f σ' => f = .next ∧ σ' = sbS b []) (fun k hk => ?_) fb (fun fl f σ' Mu₂ s₂ H₂ fb₂ _ m P => ?_) fun v p σ' s' H' _ _ P => nomatch P.1
  · rw [show valsOf [(nm "command", PV.bytes b)] = [(nm "command", .val (.bytes b))] from rfl, sb012, lenB_ok (by omega)]
    exact hk _ _ ⟨rfl, rfl⟩
  obtain ⟨rfl, rfl⟩ := P
  cases m
  have fin : ∀ {Mu s₃ H₃ l bs QQ EE}, FB prog w h₁ Mu bsc env (sbS b l) s H s₃ H₃ → l.length ≤ 3 → toBs (l ++ [.bytes b]) = some bs → bs.flatten = laidB b → (∀ v' s' H', After s H s' H' → Rep prog w H' v' (.bytes (laidB b)) → QQ (.ret v') s') →
      wpAny (model prog w) (A.deeper env) (execs [stB "_serialize_bytes_command" 4, stB "_serialize_bytes_command" 5] env) QQ EE s₃ := by
    intro Mu s₃ H₃ l bs QQ EE fb₃ h1 h2 h3 hq
    have hll : (laidB b).length ≤ 1000000 := by
      unfold laidB
      split
      · simp; omega
      · split
        · simp; omega
        · simp; omega
    refine run_step SX R' (P := fun f σ' => f = .ret (.bytes (laidB b))) (fun k hk => ?_) fb₃ (fun fl f σ' Mu₄ s₄ H₄ fb₄ _ m P => ?_) fun v p σ' s' H' a hv P => ?_
    · rw [sb_end, gateT (lenT (by omega))]
      show (match toBs (l ++ [.bytes b]) with | some bs => gate (lenOk bs.flatten.length) _ | none => none) = _
      rw [h2]
      dsimp only
      rw [h3, gateT (lenT hll)]
      exact hk _ _ rfl
    · subst P; cases m
    · cases P; exact hq _ _ _ a hv
  refine wpAny_execs_cons (wpAny_If (test_step' (EV _ _ _ ok).2 R' (P := fun c => c = decide ((b.length : Int) < 76)) (fun k hk => by rw [sb_t1]; exact hk _ rfl) fb₂.opens fun c s₃ H₃ a₃ hc => ?_))
  subst hc
  have fb₃ := fb₂.forget a₃.same a₃.keep
  by_cases c1 : b.length < 76
  · rw [decide_eq_true (by omega), if_pos rfl]
    refine run_step SX R' (P := fun f σ' => f = .next ∧ σ' = sbS b [.bytes [b.length.toUInt8]]) (fun k hk => ?_) fb₃ (fun fl f σ' Mu₄ s₄ H₄ fb₄ _ m P => ?_) fun v p σ' s' H' _ _ P => nomatch P.1
    · rw [sb_b1]
      refine (tob_go (j := 1) (by omega) (by omega) _).trans ?_
      rw [leN1 (by omega)]
      exact hk _ _ ⟨rfl, rfl⟩
    obtain ⟨rfl, rfl⟩ := P
    cases m
    refine fin fb₄ (by simp) rfl ?_ fun v' s' H' a hr => q v' s' H' a hr
    unfold laidB; rw [if_pos c1]; simp
  rw [decide_eq_false (by omega), if_neg (by decide)]
  refine wpAny_execs_cons (wpAny_If (test_step' (EV _ _ _ ok).2 R' (P := fun c => c = decide ((b.length : Int) < 256)) (fun k hk => by rw [sb_t2]; exact hk _ rfl) fb₃.opens fun c s₄ H₄ a₄ hc => ?_))
  subst hc
  have fb₄ := fb₃.forget a₄.same a₄.keep
  by_cases c2 : b.length < 256
  · rw [decide_eq_true (by omega), if_pos rfl]
    refine wpAny_execs_cons (pd_stmt (n := n) (op := 76) Z ok (.inl ⟨rfl, rfl, c2⟩) fb₄ R' fun s₅ H₅ fb₅ => wpAny_execs_nil (wpAny_execs_nil ?_))
    refine fin fb₅ (by simp) rfl ?_ fun v' s' H' a hr => q v' s' H' a hr
    unfold laidB; rw [if_neg c1, if_pos c2, show leN (1 : Int).toNat b.length = leN 1 b.length from rfl, leN1 c2]; simp
  rw [decide_eq_false (by omega), if_neg (by decide)]
  refine wpAny_execs_cons (wpAny_If (test_step' (EV _ _ _ ok).2 R' (P := fun c => c = true) (fun k hk => by rw [sb_t3, decide_eq_true (show (b.length : Int) < 65536 by omega)]; exact hk _ rfl) fb₄.opens fun c s₅ H₅ a₅ hc => ?_))
  subst hc
  have fb₅ := fb₄.forget a₅.same a₅.keep
  rw [if_pos rfl]
  refine wpAny_execs_cons (pd_stmt (n := n) (op := 77) Z ok (.inr ⟨rfl, rfl, hl⟩) fb₅ R' fun s₆ H₆ fb₆ => wpAny_execs_nil (wpAny_execs_nil (wpAny_execs_nil ?_)))
  refine fin fb₆ (by simp) rfl ?_ fun v' s' H' a hr => q v' s' H' a hr
  unfold laidB; rw [if_neg c1, if_neg c2, show leN (2 : Int).toNat b.length = leN 2 b.length from rfl, leN2 hl]; simp
/-- the contract -/
def sbF : Fun := fun as ks k => match as, ks with
  | [.bytes b], [] => gate (decide (b.length < 65536)) (k (.bytes (laidB b)))
  | _, _ => none
theorem sb_ok (Z : PdK prog w h₁ K) (F : FnAt K fa (parOf "_serialize_bytes_command") (bodyOf "_serialize_bytes_command") bsc fd) (hd : fd.defaults = .none) (hk : fd.kwdefaults = .none) (hb : Simple (parOf "_serialize_bytes_command") [nm "command"]) :
    FunOk prog w h₁ (n + 3) (.ref fa) sbF := by
  obtain ⟨o, ho, hod⟩ := F.get Z.X
  refine ⟨fun h kp => keeper_fn (kp _ _ ho) hod, fun A E Q s H args kws ps ks k r R g ha hks e N => ?_⟩
  unfold sbF at e
  split at e
  · cases hks
    cases ha with
    | cons hv ha =>
    cases ha
    obtain ⟨g1, e⟩ := gate_some e
    exact sb_call (n := n) Z F hd hk hb R g hv (of_decide_eq_true g1) fun v' s' H' a hr => N v' _ s' H' a hr e
  · cases e
end Mine
end

/-! Sp14 -/
section
open PySem
set_option maxRecDepth 100000
namespace Mine

theorem op_none {b : List UInt8} {i w e : Nat} (h : opAt b i = some (w, none, e)) : w = at_ b i ∧ (w = 0 ∨ 78 < w) ∧ e = i + 1 := by
  unfold opAt at h
  dsimp only at h
  split at h
  · rename_i q; cases h; exact ⟨rfl, q, rfl⟩
  · split at h
    · split at h
      · cases h
      · split at h <;> cases h
    · split at h <;> cases h
theorem op_some {b x : List UInt8} {i w e : Nat} (h : opAt b i = some (w, some x, e)) : w = at_ b i ∧ 0 < w ∧ w ≤ 78 ∧ psP b i ≤ e ∧ (b.take e).drop (e - psP b i) = x ∧ e ≤ b.length := by
  unfold opAt at h
  dsimp only at h
  unfold psP at_
  split at h
  · cases h
  · rename_i q
    split at h
    · rename_i q2
      rw [if_neg (by omega)]
      generalize 2 ^ ((b.getD i 0).toNat - 76) = z at h ⊢
      split at h
      · cases h
      · split at h
        · cases h
          refine ⟨rfl, by omega, by omega, by omega, ?_, by assumption⟩
          unfold sl
          congr 1
          omega
        · cases h
    · rename_i q2
      split at h
      · cases h
        rw [if_pos (by omega)]
        refine ⟨rfl, by omega, by omega, by omega, ?_, by assumption⟩
        unfold sl
        congr 1
        omega
      · cases h
theorem drop_take_len (b : List UInt8) (e j : Nat) : ((b.take e).drop j).length ≤ b.length := by simp; omega
theorem walk_ok (b : List UInt8) (hb : b.length ≤ 100000) : ∀ m i, ∀ x ∈ (walk b m i).1, itemOk x
  | 0, i, x, h => by cases h
  | m + 1, i, x, h => by
    unfold walk at h
    split at h
    · split at h
      · cases h
      · rename_i w c e hop
        cases h with
        | head =>
          cases c with
          | none =>
            obtain ⟨h1, h2, _⟩ := op_none hop
            have := at_lt b i
            exact ⟨by omega, h2⟩
          | some y =>
            obtain ⟨h1, h2, h3, _, h5, _⟩ := op_some hop
            exact ⟨by omega, h2, h3, by rw [← h5]; exact Nat.le_trans (drop_take_len ..) hb⟩
        | tail _ h => exact walk_ok b hb m e x h
    · cases h
def errL (b : Bool) : List PV := if b then [.str (nm "[error]")] else []
theorem co_eq (ask : Bool) {w : Nat} (h : 78 < w) : coP w = saidT ask w none := by
  have hR : saidT ask w none = if w = 79 ∨ (81 ≤ w ∧ w ≤ 96) then Str.ofString (toString ((w : Int) - 80)) else if w = 255 then nm "OP_INVALIDOPCODE" else lookI opName w (nm "OP_UNKNOWN") := by
    show (if w = 0 then _ else _) = _
    rw [if_neg (by omega)]
  rw [hR]
  unfold coP
  by_cases h1 : w = 79
  · subst h1
    rw [if_pos rfl, if_pos (.inl rfl)]
    kernel_rfl
  · rw [if_neg h1]
    by_cases h2 : 81 ≤ w ∧ w ≤ 96
    · rw [if_pos h2, if_pos (.inr h2)]
    · rw [if_neg h2, if_neg (show ¬ (w = 79 ∨ (81 ≤ w ∧ w ≤ 96)) by omega)]; rfl
end Mine
end

/-! Sp15 -/
section
open PySem
set_option maxRecDepth 100000
namespace Mine

theorem okBI_ok {b : List UInt8} {i : Nat} (h1 : i ≤ 100000) (h2 : b.length ≤ 100000) : okBI b (i : Int) = true := by
  unfold okBI
  rw [decide_eq_true (by omega), decide_eq_true (by omega), decide_eq_true h2]; rfl
theorem lenE : Str.empty.length = 0 := rfl
theorem emptyApp (a : Str) : Str.empty ++ a = a := by
  show Str.mk (#[] ++ a.cps) = a
  rw [Array.empty_append]
theorem fstr4_ok {a x : Str} {k : Str → Option PV} (ha : a.length ≤ 400000) (hx : x.length ≤ 1000) : fstr4 a x k = k (((a ++ nm "[") ++ x) ++ nm "]") := by
  unfold fstr4
  rw [emptyApp, gateT (lenT (by omega)), gateT (lenT (by rw [lenE]; omega)), gateT (lenT (by rw [len1]; omega)), gateT (lenT (by omega)), gateT (lenT (by rw [lenApp, len1]; omega)), gateT (lenT (by rw [lenApp, lenApp, len1, len2]; omega))]
def texts (ask : Bool) (l : List Item) : List PV := l.map fun x => .str (saidT ask x.1 x.2.1)
theorem asm_loop (b : List UInt8) (a : PV) (dec : Bool) (hb : b.length ≤ 100000) : ∀ (m i : Nat) (out : List PV) (o : AsO), b.length - i < m → i ≤ b.length → out.length + (b.length - i) ≤ 900000 →
    loopK T3 "script_to_asm" m (asA b a dec out (i : Int) o) asKf = joinT (nm " ") (out ++ texts dec (walk b m i).1 ++ errL (walk b m i).2.2)
  | 0, i, out, o, h, _, _ => by omega
  | m + 1, i, out, o, h, hi, hf => by
    rw [as_step, lenB_ok (by omega)]
    unfold walk
    by_cases h1 : ¬ i < b.length
    · rw [condF (by omega), if_neg h1]; simp [texts, errL]
    have h1 : i < b.length := by omega
    rw [condT (by omega), if_pos h1, gateT (okBI_ok (by omega) hb), Int.toNat_natCast, rd_op b i h1]
    cases hop : opAt b i with
    | none =>
      simp only [Option.map_none]
      rw [gateT (lenT (by omega))]
      simp [texts, errL]
    | some x =>
      obtain ⟨w, c, e⟩ := x
      obtain ⟨b1, b2⟩ := opAt_bound h1 hop
      simp only [Option.map_some]
      have fin : ∀ (txt : Str) (o : AsO), txt = saidT dec w c → gate (lenOk out.length) (loopK T3 "script_to_asm" m (asA b a dec (out ++ [.str txt]) (e : Nat) o) asKf) =
          joinT (nm " ") (out ++ texts dec ((w, c, i, e) :: (walk b m e).1) ++ errL (walk b m e).2.2) := by
        intro txt o ht
        rw [gateT (lenT (by omega)), asm_loop b a dec hb m e (out ++ [PV.str txt]) o (by omega) b2 (by simp; omega)]
        subst ht
        simp [texts]
      cases c with
      | none =>
        obtain ⟨q1, q2, q3⟩ := op_none hop
        have wl := at_lt b i
        by_cases h78 : 78 < w
        · rw [condT (by omega), gateT (by rw [decide_eq_true (by omega), decide_eq_true (by omega)]; rfl), Int.toNat_natCast]
          exact fin _ _ (co_eq dec h78)
        · have w0 : w = 0 := by omega
          have ps0 : psP b i = 0 := by unfold psP; rw [if_pos (by omega)]; omega
          rw [condF (by omega), gateT (by rw [okBI_ok (by omega) hb, decide_eq_true h1, decide_eq_true (by omega)]; rfl), ps0,
            show ((e : Nat) : Int) - ((0 : Nat) : Int) = ((e : Nat) : Int) by omega, cutAt_ok (by omega) (by omega) (by omega)]
          have nil : (b.take e).drop e = [] := by rw [List.drop_eq_nil_iff]; simp; omega
          rw [nil, lenB_ok (by simp), condT (by simp), gateT (by simp), gateT (numP_small (by simp))]
          exact fin _ _ (by show _ = (if w = 0 then _ else _); rw [if_pos w0]; rfl)
      | some x =>
        obtain ⟨q1, q2, q3, q4, q5, q6⟩ := op_some hop
        have wl := at_lt b i
        have xl : x.length ≤ 100000 := by rw [← q5]; exact Nat.le_trans (drop_take_len ..) hb
        rw [condF (by omega), gateT (by rw [okBI_ok (by omega) hb, decide_eq_true h1, decide_eq_true (by omega)]; rfl),
          show ((e : Nat) : Int) - ((psP b i : Nat) : Int) = ((e - psP b i : Nat) : Int) by omega, cutAt_ok (by omega) (by omega) (by omega), q5, lenB_ok (by omega)]
        by_cases a1 : x.length ≤ 4
        · rw [condT (by omega), gateT (decide_eq_true a1), gateT (numP_small a1)]
          exact fin _ _ (said_short a1).symm
        rw [condF (by omega)]
        have cT : ∀ (z : Bool) (a b : Option PV), z = true → (bif z then a else b) = a := by intro z a b h; rw [h]; rfl
        have cF : ∀ (z : Bool) (a b : Option PV), z = false → (bif z then a else b) = b := by intro z a b h; rw [h]; rfl
        have plain : ∀ z : Option PV, (¬ (dec && sigP x) = true ∨ sigName.lookup ((at_ x (x.length - 1) : Nat) : Int) = none) →
            hexT x (fun txt => gate (lenOk out.length) (loopK T3 "script_to_asm" m (asA b a dec (out ++ [.str txt]) (e : Nat) (some (.tup [.int (w : Nat), .int (e : Nat)], .int (w : Nat), .int (e : Nat), some (.bytes x, z)))) asKf)) =
              joinT (nm " ") (out ++ texts dec ((w, some x, i, e) :: (walk b m e).1) ++ errL (walk b m e).2.2) := by
          intro z hc
          rw [hexT_ok (by omega)]
          refine fin _ _ ?_
          show _ = (if x.length ≤ 4 then _ else _)
          rw [if_neg a1]
          rcases hc with hc | hc
          · rw [if_neg hc]
          · by_cases hq : (dec && sigP x) = true
            · rw [if_pos hq, hc]
            · rw [if_neg hq]
        by_cases hask : dec = false
        · rw [cF _ _ _ hask]
          exact plain _ (.inl (by rw [hask]; simp))
        have hask : dec = true := by simpa using hask
        rw [cT _ _ _ hask, gateT (lenT (by omega))]
        by_cases hs : sigP x = false
        · rw [cF _ _ _ hs]
          exact plain _ (.inl (by rw [hs]; simp))
        have hs : sigP x = true := by simpa using hs
        rw [cT _ _ _ hs, last_ok (by omega) (by omega)]
        cases hy : sigName.lookup ((at_ x (x.length - 1) : Nat) : Int) with
        | none => exact plain _ (.inr hy)
        | some y =>
          dsimp only
          rw [cutLast_ok (by omega), hexT_ok (by simp; omega), fstr4_ok (by rw [hexS_len]; simp; omega) (Nat.le_trans (sig_len _ _ hy) (by decide))]
          refine fin _ _ ?_
          show _ = (if x.length ≤ 4 then _ else _)
          rw [if_neg a1, if_pos (by rw [hask, hs]; rfl), hy]
end Mine
end

/-! Sp16 -/
section
open PySem
set_option maxRecDepth 100000
namespace Mine

theorem op_size {b x : List UInt8} {i w e : Nat} (h : opAt b i = some (w, some x, e)) : i + 1 + x.length ≤ e := by
  unfold opAt at h
  dsimp only at h
  have sle : ∀ j m, (sl b j m).length ≤ m := by intro j m; unfold sl; simp; omega
  split at h
  · cases h
  · split at h
    · generalize 2 ^ ((b.getD i 0).toNat - 76) = z at h
      split at h
      · cases h
      · split at h
        · cases h
          have := sle (i + 1 + z) (leV (sl b (i + 1) z))
          omega
        · cases h
    · split at h
      · cases h
        have := sle (i + 1) (b.getD i 0).toNat
        omega
      · cases h
theorem op_len : ∀ i : Int, (lookI opName i (nm "OP_UNKNOWN")).length ≤ 100 := by
  have h : (opName.all fun p => decide (p.2.length ≤ 100)) = true := by kernel_rfl
  intro i
  unfold lookI
  split
  · rename_i y e
    have gen : ∀ (l : List (Int × Str)), l.lookup i = some y → (i, y) ∈ l := by
      intro l
      induction l with
      | nil => intro e; cases e
      | cons p l ih =>
        intro e
        obtain ⟨j, z⟩ := p
        rw [List.lookup_cons] at e
        cases q : i == j with
        | true => rw [q] at e; cases e; rw [eq_of_beq q]; exact .head _
        | false => rw [q] at e; exact .tail _ (ih e)
    exact of_decide_eq_true (List.all_eq_true.mp h _ (gen _ e))
  · exact of_decide_eq_true (by kernel_rfl)
theorem ofS_len (z : Int) (h : z.natAbs < 10 ^ 12) : (Str.ofString (toString z)).length ≤ 100 := by
  have := int_text_length_le10 (k := 12) (by decide) h
  rw [ofString_length]; omega
theorem numS_len {c : List UInt8} (h : c.length ≤ 4) : (numS c).length ≤ 100 := by
  refine ofS_len _ ?_
  have h1 := leV_lt c
  have h2 : 256 ^ c.length ≤ 256 ^ 4 := Nat.pow_le_pow_right (by decide) h
  have h3 : leV c % 2 ^ (8 * c.length - 1) ≤ leV c := Nat.mod_le _ _
  unfold numP
  split
  · decide
  · split <;> omega
theorem said_len (ask : Bool) (w : Nat) (c : Option (List UInt8)) (hw : w < 256) : (saidT ask w c).length ≤ (match c with | none => 0 | some x => 2 * x.length) + 200 := by
  cases c with
  | none =>
    show (if w = 0 then _ else _ : Str).length ≤ _
    split
    · have := numS_len (c := []) (by simp); omega
    · split
      · have := ofS_len ((w : Int) - 80) (by omega); omega
      · split
        · have : (nm "OP_INVALIDOPCODE").length ≤ 100 := of_decide_eq_true (by kernel_rfl)
          omega
        · have := op_len w; omega
  | some x =>
    show (if x.length ≤ 4 then _ else _ : Str).length ≤ _
    dsimp only
    split
    · rename_i h; have := numS_len h; omega
    · split
      · split
        · rename_i y hy
          have := sig_len _ _ hy
          rw [lenApp, lenApp, lenApp, len1, len2, hexS_len]
          simp; omega
        · rw [hexS_len]; omega
      · rw [hexS_len]; omega
def sumLen (l : List Str) : Nat := (l.map fun s => s.length + 1).sum
theorem fold_len : ∀ (l : List Str) (z : Nat), l.foldl (fun (a : Nat) (s : Str) => a + s.length + (nm " ").length) z = z + sumLen l
  | [], z => by simp [sumLen]
  | s :: l, z => by
    have : (nm " ").length = 1 := by kernel_rfl
    rw [List.foldl_cons, fold_len l]
    simp [sumLen, this]; omega
theorem joinOk_of {l : List Str} (h : sumLen l ≤ 1000000) : JoinOk (nm " ") l = true := by
  unfold JoinOk
  rw [← Array.foldl_toList, List.toList_toArray, fold_len]
  rw [Bool.not_eq_true']
  exact decide_eq_false (by rw [sizeLine_eq]; omega)
def saidL (ask : Bool) (l : List Item) : List Str := l.map fun x => saidT ask x.1 x.2.1
theorem walk_len (ask : Bool) (b : List UInt8) : ∀ m i, i ≤ b.length → sumLen (saidL ask (walk b m i).1) ≤ 203 * (b.length - i)
  | 0, i, _ => by simp [walk, saidL, sumLen]
  | m + 1, i, hi => by
    unfold walk
    split
    · rename_i h1
      split
      · simp [saidL, sumLen]
      · rename_i w c e hop
        obtain ⟨b1, b2⟩ := opAt_bound h1 hop
        have ih := walk_len ask b m e b2
        have wl := at_lt b i
        have key : (saidT ask w c).length + 1 ≤ 203 * (e - i) := by
          cases c with
          | none =>
            obtain ⟨q1, _, _⟩ := op_none hop
            have := said_len ask w none (by omega)
            dsimp only at this
            omega
          | some x =>
            obtain ⟨q1, _⟩ := op_some hop
            have h1 := said_len ask w (some x) (by omega)
            have h2 := op_size hop
            dsimp only at h1
            omega
        have e1 : sumLen (saidL ask ((w, c, i, e) :: (walk b m e).1)) = ((saidT ask w c).length + 1) + sumLen (saidL ask (walk b m e).1) := by simp [saidL, sumLen]
        rw [e1]
        omega
    · simp [saidL, sumLen]
theorem toSs_map : ∀ l : List Str, toSs (l.map .str) = some l
  | [] => rfl
  | s :: l => by show (match toSs (l.map .str) with | some r => some (s :: r) | none => none) = _; rw [toSs_map l]
/-- the whole telling -/
def toldS (b : List UInt8) (ask : Bool) : Str := PySem.Txt.join (nm " ") (saidL ask (allP b).1 ++ (if (allP b).2.2 then [nm "[error]"] else []))
theorem join_told (b : List UInt8) (ask : Bool) (hb : b.length < 4000) : joinT (nm " ") (texts ask (allP b).1 ++ errL (allP b).2.2) = some (.str (toldS b ask)) := by
  have e : texts ask (allP b).1 ++ errL (allP b).2.2 = (saidL ask (allP b).1 ++ (if (allP b).2.2 then [nm "[error]"] else [])).map PV.str := by
    unfold texts saidL errL
    cases (allP b).2.2 <;> simp
  unfold joinT
  rw [e, toSs_map]
  dsimp only
  rw [gateT (joinOk_of ?_)]
  · rfl
  · have h1 := walk_len ask b 4000 0 (Nat.zero_le _)
    have h2 : sumLen (saidL ask (allP b).1) ≤ 203 * (b.length - 0) := h1
    have h3 : (nm "[error]").length = 7 := by kernel_rfl
    unfold sumLen at *
    rw [List.map_append, List.sum_append]
    cases (allP b).2.2 <;> simp [h3] <;> omega
end Mine
end

/-! Sp17 -/
section
open PySem
set_option maxRecDepth 100000
namespace Mine

def askP (b : List UInt8) (v : Bool) : Bool := v && (!decide (b.take 1 = [106]) && decide (b.length ≤ 10000))
theorem decT_ok {b : List UInt8} {v : Bool} {k : Bool → Option PV} (hb : b.length ≤ 1000000) : decT b v k = k (askP b v) := by
  unfold decT askP
  cases v with
  | false => rfl
  | true =>
    simp only [cond_true, Bool.true_and]
    rw [show optI .none = some none from rfl, show optI (.int 1) = some (some 1) from rfl]
    dsimp only
    rw [gateT (lenT hb)]
    have e : cutL b none (some 1) = b.take 1 := by
      unfold cutL
      simp only [Option.elim_none, Option.elim_some, List.drop_zero, Nat.sub_zero]
      have := clip_nat b.length 1
      rw [show (1 : Int) = ((1 : Nat) : Int) from rfl, this]
      by_cases h : 1 ≤ b.length
      · rw [Nat.min_eq_left h]
      · have : b = [] := List.length_eq_zero_iff.mp (by omega)
        subst this; rfl
    rw [e]
    by_cases h : b.take 1 = [106]
    · rw [decide_eq_true h]; rfl
    · rw [decide_eq_false h]
      simp only [Bool.not_false, cond_true, Bool.true_and]
      rw [lenB_ok hb]
      congr 1
      by_cases h2 : b.length ≤ 10000
      · rw [decide_eq_true h2, decide_eq_true (show ((b.length : Nat) : Int) ≤ 10000 by omega)]
      · rw [decide_eq_false h2, decide_eq_false (show ¬ ((b.length : Nat) : Int) ≤ 10000 by omega)]
theorem walk_count (b : List UInt8) : ∀ m i, (walk b m i).1.length ≤ b.length - i
  | 0, i => by simp [walk]
  | m + 1, i => by
    unfold walk
    split
    · split
      · simp
      · rename_i w c e hop
        obtain ⟨b1, b2⟩ := opAt_bound (by assumption) hop
        have := walk_count b m e
        simp; omega
    · simp
theorem asm_run (b : List UInt8) (v : Bool) (hb : b.length < 4000) : runK T3 "script_to_asm" [(nm "script", .bytes b), (nm "attempt_sighash_decode", .bool v)] = some (.str (toldS b (askP b v))) := by
  rw [as_start, decT_ok (by omega)]
  have := asm_loop b (.bool v) (askP b v) (by omega) 4000 0 [] none (by omega) (by omega) (by simp; omega)
  refine Eq.trans this ?_
  rw [List.nil_append]
  exact join_told b _ hb
theorem said_run (b : List UInt8) (v : Bool) (hb : b.length < 4000) : runK T4 "_law_said" [(nm "code", .bytes b), (nm "decoded", .bool v)] = some (.str (toldS b (askP b v))) := by
  unfold runK
  rw [run_split T4 "_law_said" 3, sa_pre, gateT (decide_eq_true hb), decT_ok (by omega)]
  dsimp only
  have hc := walk_count b 4000 0
  have hc : (allP b).1.length ≤ b.length - 0 := hc
  rw [sa_loop, gateT (lenT (by simp; omega)), said_loop _ (allP b).1 _ _ (fun x hx => walk_ok b (by omega) 4000 0 x hx) (by simp; omega)]
  dsimp only
  rw [List.nil_append]
  have e : (List.map (fun (x : Item) => PV.str (saidT (askP b v) x.1 x.2.1)) (allP b).1) = texts (askP b v) (allP b).1 := rfl
  rw [e]
  have jt := join_told b (askP b v) hb
  have tl : (texts (askP b v) (allP b).1).length ≤ 4000 := by unfold texts; simp; omega
  unfold endT
  unfold errL at jt
  cases hbr : (allP b).2.2 with
  | false =>
    rw [hbr] at jt
    show gate _ _ = _
    rw [gateT (lenT (by omega))]
    exact jt
  | true =>
    rw [hbr] at jt
    show gate _ _ = _
    rw [gateT (lenT (by omega))]
    exact jt
end Mine
end

/-! Sp18 -/
section
open PySem
set_option maxRecDepth 100000
namespace Mine

def isIntP : PV → Bool
  | .int _ => true
  | _ => false
def iiF : Fun := fun as ks k => match as, ks with
  | [p], [] => gate (decide (knd p ∈ knds)) (k (.bool (isIntP p)))
  | _, _ => none
def T5 : Tbl := tb [(nm "is_integer", iiF)]
def enT (i : Int) : Option PV :=
  bif decide (-9223372036854775808 ≤ i) then (bif (!decide (i ≤ 9223372036854775807)) then none else
    bif decide (i = 0) then some (.bytes []) else
    let nb := ((Builtin.Int.intBits i : Nat) + 1 + 7 : Int).fdiv 8
    let a := bif decide (i < 0) then -i else i
    gate (small nb && small 8) (gate (decide (0 ≤ nb * 8 - 1) && decide (nb * 8 - 1 ≤ 10000)) (
      let x := Builtin.bitOr a ((bif decide (i < 0) then 1 else 0) * 2 ^ (nb * 8 - 1).toNat)
      gate (decide (0 ≤ nb) && decide (nb ≤ 1000) && decide (0 ≤ x) && decide (x.toNat < 256 ^ nb.toNat)) (some (.bytes (leN nb.toNat x.toNat))))))
  else none
theorem en_tree (i : Int) : runF T5 "encode_num" [.int i] = enT i := by kernel_rfl

/-! _law_octets -/
def loA (z : Int) (found : List PV) (left : Int) : Vars := [(nm "number", .val (.int z)), (nm "found", .own found), (nm "left", .val (.int left))]
def loKf : KS := fun f σ => match f with
  | .next => exList (exN base (scOf "_law_octets") 16 4000 8) ((bodyOf "_law_octets").drop 2) σ kEnd
  | .ret p => some p
  | _ => none
theorem lo_pos : ∃ p, (bodyOf "_law_octets").drop 1 = .While (whT "_law_octets") (whB "_law_octets") [] p :: (bodyOf "_law_octets").drop 2 := ⟨_, by with_unfolding_all rfl⟩
theorem lo_start (z : Int) : runF base "_law_octets" [.int z] = loopK base "_law_octets" 4000 (loA z [] (bif decide (z < 0) then -z else z)) loKf := by
  obtain ⟨p, e⟩ := lo_pos
  exact loop_start 1 (σ := valsOf [(nm "number", .int z)]) (fun k => by kernel_rfl) e fun f σ => by cases f <;> rfl
theorem lo_step (m : Nat) (z left : Int) (found : List PV) : loopK base "_law_octets" (m + 1) (loA z found left) loKf =
    bif decide (0 < left) then gate (lenOk found.length) (loopK base "_law_octets" m (loA z (found ++ [.int (left.fmod 256)]) (left.fdiv 256)) loKf) else loKf .next (loA z found left) := by kernel_rfl
end Mine
end

/-! Sp19 -/
section
open PySem
set_option maxRecDepth 100000
namespace Mine

def loRet (l : List PV) : Option PV := match toInts l with
  | some is => gate (is.all inB && lenOk is.length) (some (.bytes (is.map u8)))
  | none => none
def loRest (z : Int) (l : List PV) : Option PV :=
  bif decide (z < 0) then itemK (.lst l) (.int (-1)) fun p => binK .Add p (.int 128) fun q => gate (flatP q && !l.isEmpty && lenOk l.length) (loRet (setLast l q)) else loRet l
theorem lo_end (z left : Int) (found : List PV) : loKf .next (loA z found left) =
    gate (lenOk found.length) (bif (!found.isEmpty) then itemK (.lst found) (.int (-1)) fun p => cmpK .GtE p (.int 128) fun c => bif c then gate (lenOk found.length) (loRest z (found ++ [.int 0])) else loRest z found else loRest z found) := by kernel_rfl
end Mine
end

/-! Sp20 -/
section
open PySem
set_option maxRecDepth 100000
namespace Mine

def dig : Nat → Nat → List Nat
  | 0, _ => []
  | m + 1, x => if x = 0 then [] else x % 256 :: dig m (x / 256)
def intsP (l : List Nat) : List PV := l.map fun (x : Nat) => PV.int (x : Int)
theorem dig_len : ∀ m x, (dig m x).length ≤ m
  | 0, _ => by simp [dig]
  | m + 1, x => by
    unfold dig
    split
    · simp
    · have := dig_len m (x / 256); simp; omega
theorem lo_loop (z : Int) : ∀ (m x : Nat) (found : List Nat), x < 256 ^ m → found.length + m ≤ 900000 →
    loopK base "_law_octets" (m + 1) (loA z (intsP found) (x : Int)) loKf = loKf .next (loA z (intsP (found ++ dig m x)) 0)
  | 0, x, found, h, hf => by
    have : x = 0 := by simpa using h
    subst this
    rw [lo_step, condF (by omega)]
    simp [dig]
  | m + 1, x, found, h, hf => by
    rw [lo_step]
    by_cases h0 : x = 0
    · subst h0
      rw [condF (by omega)]
      simp [dig]
    · rw [condT (by omega), gateT (lenT (by simp [intsP]; omega)), show ((x : Nat) : Int).fmod 256 = ((x % 256 : Nat) : Int) from fmodN x 256, show ((x : Nat) : Int).fdiv 256 = ((x / 256 : Nat) : Int) from fdivN x 256]
      have e : intsP found ++ [PV.int ((x % 256 : Nat) : Int)] = intsP (found ++ [x % 256]) := by simp [intsP]
      rw [e, lo_loop z m (x / 256) (found ++ [x % 256]) (by rw [Nat.pow_succ] at h; exact Nat.div_lt_of_lt_mul (by omega)) (by simp; omega)]
      rw [show dig (m + 1) x = x % 256 :: dig m (x / 256) from if_neg h0]
      simp
theorem dig_small : ∀ m x, ∀ d ∈ dig m x, d < 256
  | 0, _, d, h => by cases h
  | m + 1, x, d, h => by
    unfold dig at h
    split at h
    · cases h
    · cases h with
      | head => exact Nat.mod_lt _ (by decide)
      | tail _ h => exact dig_small m _ d h
/-- a number's octets, the sign in the last one's top bit -/
def encD (z : Int) : List Nat :=
  let d := dig 3999 z.natAbs
  let d1 := if 128 ≤ d.getLastD 0 then d ++ [0] else d
  if z < 0 then d1.dropLast ++ [d1.getLastD 0 + 128] else d1
def encP (z : Int) : List UInt8 := (encD z).map fun (x : Nat) => u8 (x : Int)
theorem toInts_ints : ∀ l : List Nat, toInts (intsP l) = some (l.map fun (x : Nat) => (x : Int))
  | [] => rfl
  | x :: l => by show (match toInts (intsP l) with | some r => some ((x : Int) :: r) | none => none) = _; rw [toInts_ints l]; rfl
theorem loRet_ok {l : List Nat} (h : ∀ d ∈ l, d < 256) (hl : l.length ≤ 1000000) : loRet (intsP l) = some (.bytes (l.map fun (x : Nat) => u8 (x : Int))) := by
  unfold loRet
  rw [toInts_ints]
  dsimp only
  rw [gateT (by
    rw [lenT (by simpa using hl), Bool.and_true]
    refine List.all_eq_true.mpr fun z hz => ?_
    obtain ⟨d, hd, rfl⟩ := List.mem_map.mp hz
    have := h d hd
    exact inBT (by omega) (by omega))]
  rw [List.map_map]; rfl
theorem item_last {l : List PV} {p : PV} {k : PV → Option PV} (hl : l.length + 1 ≤ 1000000) : itemK (.lst (l ++ [p])) (.int (-1)) k = k p := by
  show gate (lenOk (l ++ [p]).length) (idxK (l ++ [p]).reverse 0 k) = _
  rw [gateT (lenT (by simpa using hl)), List.reverse_append]
  rfl
theorem split_last (l : List Nat) (h : l ≠ []) : l = l.dropLast ++ [l.getLastD 0] := by
  rw [List.getLastD_eq_getLast?, List.getLast?_eq_some_getLast h]
  exact (List.dropLast_concat_getLast h).symm
theorem lo_run (z : Int) (hz : z.natAbs < 256 ^ 9) : runF base "_law_octets" [.int z] = some (.bytes (encP z)) := by
  have habs : (bif decide (z < 0) then -z else z) = ((z.natAbs : Nat) : Int) := by
    by_cases h : z < 0
    · rw [condT h]; omega
    · rw [condF h]; omega
  rw [lo_start, habs]
  have hp : 256 ^ 9 ≤ 256 ^ 3999 := Nat.pow_le_pow_right (by decide) (by decide)
  have := lo_loop z 3999 z.natAbs [] (Nat.lt_of_lt_of_le hz hp) (by simp)
  refine Eq.trans this ?_
  rw [lo_end, List.nil_append]
  unfold encP encD
  have dl := dig_len 3999 z.natAbs
  have ds := dig_small 3999 z.natAbs
  generalize hd : dig 3999 z.natAbs = d at dl ds ⊢
  dsimp only
  rw [gateT (lenT (by simp [intsP]; omega))]
  have rest : ∀ l : List Nat, l ≠ [] → l.getLastD 0 < 128 → (∀ x ∈ l, x < 256) → l.length ≤ 900000 → loRest z (intsP l) = some (.bytes ((if z < 0 then l.dropLast ++ [l.getLastD 0 + 128] else l).map fun (x : Nat) => u8 (x : Int))) := by
    intro l hne hlast hs hl
    unfold loRest
    by_cases h : z < 0
    · rw [condT h, if_pos h]
      have e : intsP l = intsP l.dropLast ++ [PV.int ((l.getLastD 0 : Nat) : Int)] := by
        conv => lhs; rw [split_last l hne]
        simp [intsP]
      rw [e, item_last (by simp [intsP]; omega)]
      show gate _ (loRet (setLast (intsP l.dropLast ++ [PV.int ((l.getLastD 0 : Nat) : Int)]) (.int (((l.getLastD 0 : Nat) : Int) + 128)))) = _
      rw [gateT (by simp [flatP, lenOk, intsP]; omega)]
      have e2 : setLast (intsP l.dropLast ++ [PV.int ((l.getLastD 0 : Nat) : Int)]) (.int (((l.getLastD 0 : Nat) : Int) + 128)) = intsP (l.dropLast ++ [l.getLastD 0 + 128]) := by
        unfold setLast
        simp [intsP]
      rw [e2]
      refine loRet_ok (fun x hx => ?_) (by simp; omega)
      rcases List.mem_append.mp hx with hx | hx
      · exact hs x (List.dropLast_subset l hx)
      · rw [List.mem_singleton.mp hx]; omega
    · rw [condF h, if_neg h]
      exact loRet_ok hs (by omega)
  cases d with
  | nil =>
    show loRest z (intsP []) = _
    by_cases h : z < 0
    · have : z.natAbs ≠ 0 := by omega
      rw [show dig 3999 z.natAbs = z.natAbs % 256 :: dig 3998 (z.natAbs / 256) from if_neg this] at hd
      cases hd
    · unfold loRest
      rw [condF h]
      simp [h, List.getLastD]
      exact loRet_ok (l := []) (by simp) (by simp)
  | cons d0 ds' =>
    have e : intsP (d0 :: ds') = intsP (d0 :: ds').dropLast ++ [PV.int (((d0 :: ds').getLastD 0 : Nat) : Int)] := by
      conv => lhs; rw [split_last (d0 :: ds') (by simp)]
      simp [intsP]
    show itemK (.lst (intsP (d0 :: ds'))) (.int (-1)) _ = _
    rw [e, item_last (by simp [intsP] at dl ⊢; omega)]
    show (bif decide (128 ≤ (((d0 :: ds').getLastD 0 : Nat) : Int)) then _ else _) = _
    rw [← e]
    by_cases h : 128 ≤ (d0 :: ds').getLastD 0
    · rw [condT (by omega), if_pos h, gateT (lenT (by simp [intsP] at dl ⊢; omega))]
      have e2 : intsP (d0 :: ds') ++ [PV.int 0] = intsP (d0 :: ds' ++ [0]) := by simp [intsP]
      rw [e2]
      exact rest (d0 :: ds' ++ [0]) (by simp) (by rw [List.getLastD_eq_getLast?, List.getLast?_concat]; decide) (fun x hx => by
        rcases List.mem_append.mp hx with hx | hx
        · exact ds x hx
        · rw [List.mem_singleton.mp hx]; omega) (by simp at dl ⊢; omega)
    · rw [condF (by omega), if_neg h]
      exact rest _ (by simp) (by omega) ds (by omega)
end Mine
end

/-! Sp21 -/
section
open PySem
set_option maxRecDepth 100000
namespace Mine

theorem leN_zero : ∀ n, leN n 0 = List.replicate n 0
  | 0 => rfl
  | n + 1 => by show (0 % 256).toUInt8 :: leN n (0 / 256) = _; rw [show 0 / 256 = 0 from rfl, leN_zero n, List.replicate_succ]; rfl
theorem leN_dig : ∀ (n m x : Nat), x < 256 ^ m → (dig m x).length ≤ n → leN n x = (dig m x).map (fun (x : Nat) => u8 (x : Int)) ++ List.replicate (n - (dig m x).length) 0
  | n, 0, x, h, _ => by
    have : x = 0 := by simpa using h
    subst this
    simp [dig, leN_zero]
  | n, m + 1, x, h, hl => by
    by_cases h0 : x = 0
    · subst h0
      simp [dig, leN_zero]
    · have e : dig (m + 1) x = x % 256 :: dig m (x / 256) := if_neg h0
      rw [e] at hl ⊢
      cases n with
      | zero => simp at hl
      | succ n =>
        have ih := leN_dig n m (x / 256) (by rw [Nat.pow_succ] at h; exact Nat.div_lt_of_lt_mul (by omega)) (by simpa using hl)
        show (x % 256).toUInt8 :: leN n (x / 256) = _
        rw [ih, List.map_cons, u8_nat]
        simp
theorem dig_range : ∀ (m x : Nat), 0 < x → x < 256 ^ m → 0 < (dig m x).length ∧ 256 ^ ((dig m x).length - 1) ≤ x ∧ x < 256 ^ (dig m x).length ∧ (dig m x).getLastD 0 = x / 256 ^ ((dig m x).length - 1)
  | 0, x, h0, h => by simp at h; omega
  | m + 1, x, h0, h => by
    have e : dig (m + 1) x = x % 256 :: dig m (x / 256) := if_neg (by omega)
    rw [e]
    by_cases h1 : x / 256 = 0
    · have hx : x < 256 := by omega
      have d0 : dig m (x / 256) = [] := by rw [h1]; cases m <;> simp [dig]
      rw [d0]
      simp
      omega
    · obtain ⟨i1, i2, i3, i4⟩ := dig_range m (x / 256) (by omega) (by rw [Nat.pow_succ] at h; exact Nat.div_lt_of_lt_mul (by omega))
      generalize hL : dig m (x / 256) = L at *
      have hne : L ≠ [] := by intro q; rw [q] at i1; simp at i1
      have e1 : (x % 256 :: L).getLastD 0 = L.getLastD 0 := by
        cases L with
        | nil => exact absurd rfl hne
        | cons a L => simp [List.getLastD]
      have p1 : 256 ^ ((x % 256 :: L).length - 1) = 256 ^ (L.length - 1) * 256 := by
        rw [← Nat.pow_succ]; congr 1; simp; omega
      have p2 : 256 ^ (x % 256 :: L).length = 256 ^ L.length * 256 := by rw [List.length_cons, Nat.pow_succ]
      rw [e1, p1, p2, i4]
      refine ⟨by simp, ?_, ?_, ?_⟩
      · have := Nat.mul_le_mul_right 256 i2
        omega
      · have := Nat.mul_le_mul_right 256 (show x / 256 + 1 ≤ 256 ^ L.length from i3)
        omega
      · rw [Nat.div_div_eq_div_mul, Nat.mul_comm]
theorem leN_snoc : ∀ (n x : Nat), leN (n + 1) x = leN n x ++ [(x / 256 ^ n % 256).toUInt8]
  | 0, x => by simp [leN]
  | n + 1, x => by
    show (x % 256).toUInt8 :: leN (n + 1) (x / 256) = (x % 256).toUInt8 :: (leN n (x / 256) ++ _)
    rw [leN_snoc n (x / 256), Nat.div_div_eq_div_mul, Nat.pow_succ, Nat.mul_comm 256]
theorem leN_add : ∀ (n x k : Nat), leN n (x + k * 256 ^ n) = leN n x
  | 0, x, k => rfl
  | n + 1, x, k => by
    have e : x + k * 256 ^ (n + 1) = x + (k * 256 ^ n) * 256 := by rw [Nat.pow_succ]; congr 1; rw [Nat.mul_assoc]
    show ((x + k * 256 ^ (n + 1)) % 256).toUInt8 :: leN n ((x + k * 256 ^ (n + 1)) / 256) = (x % 256).toUInt8 :: leN n (x / 256)
    rw [e, Nat.add_mul_mod_self_right, Nat.add_mul_div_right _ _ (by decide), leN_add n]
end Mine
end

/-! Sp22 -/
section
open PySem
set_option maxRecDepth 100000
namespace Mine
open PySem.Builtin.Int

theorem bitOr_nat (x y : Nat) : Builtin.bitOr (x : Int) (y : Int) = ((x ||| y : Nat) : Int) := by
  unfold Builtin.bitOr Builtin.bitAnd
  have n1 : decide (0 ≤ Builtin.bitNot (x : Int)) = false := decide_eq_false (by unfold Builtin.bitNot; omega)
  have n2 : decide (0 ≤ Builtin.bitNot (y : Int)) = false := decide_eq_false (by unfold Builtin.bitNot; omega)
  have b : ∀ v : Int, Builtin.bitNot (Builtin.bitNot v) = v := fun v => by unfold Builtin.bitNot; omega
  rw [n1, n2]
  dsimp only
  rw [b, b, b]
  simp
theorem or_top {x i : Nat} (h : x < 2 ^ i) : x ||| 2 ^ i = x + 2 ^ i := by
  have := Nat.two_pow_add_eq_or_of_lt h 1
  rw [Nat.mul_one] at this
  rw [Nat.or_comm, ← this, Nat.add_comm]
/-- how many octets a number takes -/
theorem bits_len {z : Int} (h0 : z ≠ 0) (h : z.natAbs < 256 ^ 3999) : (Builtin.Int.intBits z + 8) / 8 = (dig 3999 z.natAbs).length + (if 128 ≤ (dig 3999 z.natAbs).getLastD 0 then 1 else 0) := by
  obtain ⟨i1, i2, i3, i4⟩ := dig_range 3999 z.natAbs (by omega) h
  generalize (dig 3999 z.natAbs).getLastD 0 = d at *
  generalize (dig 3999 z.natAbs).length = L at *
  have p : ∀ n : Nat, 256 ^ n = 2 ^ (8 * n) := fun n => by rw [Nat.pow_mul]
  have u : Builtin.Int.intBits z ≤ 8 * L := intBits_le_iff.mpr (by rw [← p]; exact i3)
  have l : ¬ Builtin.Int.intBits z ≤ 8 * (L - 1) := fun q => by
    have := intBits_le_iff.mp q
    rw [← p] at this; omega
  have t : 2 ^ (8 * L - 1) = 128 * 256 ^ (L - 1) := by
    rw [p, show 8 * L - 1 = 7 + 8 * (L - 1) by omega, Nat.pow_add]
  have pos : 0 < 256 ^ (L - 1) := Nat.pow_pos (by decide)
  by_cases hd : 128 ≤ d
  · rw [if_pos hd]
    have : ¬ Builtin.Int.intBits z ≤ 8 * L - 1 := fun q => by
      have q := intBits_le_iff.mp q
      rw [t] at q
      rw [i4, Nat.le_div_iff_mul_le pos] at hd
      omega
    omega
  · rw [if_neg hd]
    have : Builtin.Int.intBits z ≤ 8 * L - 1 := intBits_le_iff.mpr (by
      rw [t]
      rw [i4, Nat.le_div_iff_mul_le pos] at hd
      omega)
    omega
theorem u8_toNat (x : Nat) (h : x < 256) : (u8 (x : Int)).toNat = x := by
  rw [u8_nat]
  simp [Nat.mod_eq_of_lt h]

theorem fdiv8 (b : Nat) : ((b : Nat) + 1 + 7 : Int).fdiv 8 = (((b + 8) / 8 : Nat) : Int) := by
  have := fdivN (b + 8) 8
  rw [← this]; congr 1
/-- a number's octets as the script number has them, ahead of the sign -/
def octD (x : Nat) : List Nat := if 128 ≤ (dig 3999 x).getLastD 0 then dig 3999 x ++ [0] else dig 3999 x
theorem octD_small (x : Nat) : ∀ d ∈ octD x, d < 256 := by
  intro d h
  unfold octD at h
  split at h
  · rcases List.mem_append.mp h with h | h
    · exact dig_small _ _ d h
    · rw [List.mem_singleton.mp h]; decide
  · exact dig_small _ _ d h
theorem octD_le {z : Int} (h0 : z ≠ 0) (h : z.natAbs < 256 ^ 3999) : leN ((Builtin.Int.intBits z + 8) / 8) z.natAbs = (octD z.natAbs).map (fun (x : Nat) => u8 (x : Int)) ∧ (octD z.natAbs).length = (Builtin.Int.intBits z + 8) / 8 ∧ (octD z.natAbs).getLastD 0 < 128 := by
  rw [bits_len h0 h]
  rw [leN_dig _ 3999 z.natAbs h (by omega)]
  unfold octD
  by_cases q : 128 ≤ (dig 3999 z.natAbs).getLastD 0
  · rw [if_pos q, if_pos q]
    refine ⟨?_, by simp, by rw [List.getLastD_eq_getLast?, List.getLast?_concat]; decide⟩
    rw [Nat.add_sub_cancel_left]
    simp
    rfl
  · rw [if_neg q, if_neg q]
    exact ⟨by simp, by simp, by omega⟩
theorem encD_eq (z : Int) : encD z = if z < 0 then (octD z.natAbs).dropLast ++ [(octD z.natAbs).getLastD 0 + 128] else octD z.natAbs := rfl
end Mine
end

/-! Sp23 -/
section
open PySem
set_option maxRecDepth 100000
namespace Mine
open PySem.Builtin.Int

theorem gate_f {b : Bool} {x : Option PV} (h : b = true) : gate b x = x := gateT h
theorem en_run (z : Int) (lo : -9223372036854775808 ≤ z) (hi : z ≤ 9223372036854775807) : enT z = some (.bytes (encP z)) := by
  unfold enT
  rw [condT lo]
  have e1 : (!decide (z ≤ 9223372036854775807)) = false := by rw [decide_eq_true hi]; rfl
  rw [e1]
  dsimp only [cond_false]
  by_cases h0 : z = 0
  · subst h0; rw [condT rfl]; rfl
  rw [condF h0]
  have h63 : z.natAbs < 2 ^ 64 := by omega
  have h9 : z.natAbs < 256 ^ 3999 := Nat.lt_of_lt_of_le h63 (Nat.le_trans (show 2 ^ 64 ≤ 256 ^ 9 by decide) (Nat.pow_le_pow_right (by decide) (by decide)))
  obtain ⟨o1, o2, o3⟩ := octD_le h0 h9
  have bl : Builtin.Int.intBits z ≤ 64 := intBits_le_iff.mpr h63
  have b0 : ¬ Builtin.Int.intBits z ≤ 0 := fun q => by have := intBits_le_iff.mp q; simp at this; exact h0 this
  have bx : z.natAbs < 2 ^ (8 * ((Builtin.Int.intBits z + 8) / 8) - 1) := intBits_le_iff.mp (by omega)
  rw [fdiv8]
  generalize hn : (Builtin.Int.intBits z + 8) / 8 = nb at *
  have habs : (bif decide (z < 0) then -z else z) = ((z.natAbs : Nat) : Int) := by
    by_cases h : z < 0
    · rw [condT h]; omega
    · rw [condF h]; omega
  have n1 : 1 ≤ nb := by omega
  have n9 : nb ≤ 9 := by omega
  have ex : ((nb : Nat) : Int) * 8 - 1 = ((8 * nb - 1 : Nat) : Int) := by omega
  rw [habs, ex, gateT (by rw [smallN (by omega)]; rfl), gateT (by rw [decide_eq_true (by omega), decide_eq_true (by omega)]; rfl)]
  rw [Int.toNat_natCast, Int.toNat_natCast]
  have p : 2 ^ (8 * nb - 1) = 128 * 256 ^ (nb - 1) := by
    rw [show 256 ^ (nb - 1) = 2 ^ (8 * (nb - 1)) by rw [Nat.pow_mul], show 8 * nb - 1 = 7 + 8 * (nb - 1) by omega, Nat.pow_add]
  have pp : 256 ^ nb = 256 * 256 ^ (nb - 1) := by
    rw [← Nat.pow_succ']; congr 1; omega
  have key : ∃ X : Nat, Builtin.bitOr ((z.natAbs : Nat) : Int) ((bif decide (z < 0) then 1 else 0) * 2 ^ (8 * nb - 1)) = (X : Int) ∧ X < 256 ^ nb ∧ leN nb X = encP z := by
    by_cases h : z < 0
    · rw [condT h]
      refine ⟨z.natAbs + 2 ^ (8 * nb - 1), ?_, ?_, ?_⟩
      · have e : (1 : Int) * 2 ^ (8 * nb - 1) = ((2 ^ (8 * nb - 1) : Nat) : Int) := by simp
        rw [e, bitOr_nat, or_top bx]
      · rw [p] at bx ⊢; omega
      · unfold encP
        rw [encD_eq, if_pos h, p]
        obtain ⟨n, rfl⟩ : ∃ n, nb = n + 1 := ⟨nb - 1, by omega⟩
        rw [Nat.add_sub_cancel] at p ⊢
        rw [p] at bx
        rw [leN_snoc] at o1 ⊢
        rw [leN_add]
        have pos : 0 < 256 ^ n := Nat.pow_pos (by decide)
        have hd : z.natAbs / 256 ^ n < 128 := by rw [Nat.div_lt_iff_lt_mul pos]; exact bx
        have hne : octD z.natAbs ≠ [] := by intro q; rw [q] at o2; simp at o2
        rw [split_last _ hne, List.map_append] at o1
        obtain ⟨a1, a2⟩ := List.append_inj' o1 (by simp)
        have a3 := (List.cons.inj a2).1
        have a4 := congrArg UInt8.toNat a3
        rw [u8_toNat _ (by omega)] at a4
        have a5 : (octD z.natAbs).getLastD 0 = z.natAbs / 256 ^ n := by
          rw [← a4]
          rw [Nat.mod_eq_of_lt (by omega)]
          rw [← u8_nat, u8_toNat _ (by omega)]
        rw [List.map_append, ← a1, Nat.add_mul_div_right _ _ pos, a5]
        congr 1
        show [_] = [u8 _]
        rw [u8_nat, Nat.mod_eq_of_lt (by omega)]
    · rw [condF h]
      refine ⟨z.natAbs, ?_, ?_, ?_⟩
      · rw [Int.zero_mul]
        have := bitOr_nat z.natAbs 0
        rw [Nat.or_zero] at this
        exact this
      · rw [p] at bx; omega
      · unfold encP
        rw [encD_eq, if_neg h]
        exact o1
  obtain ⟨X, k1, k2, k3⟩ := key
  rw [k1, Int.toNat_natCast, gateT (by
    rw [decide_eq_true (show (0 : Int) ≤ (nb : Int) by omega), decide_eq_true (show (nb : Int) ≤ 1000 by omega), decide_eq_true (show (0 : Int) ≤ (X : Int) by omega), decide_eq_true k2]; rfl), k3]
end Mine
end

/-! Sp24 -/
section
open PySem
set_option maxRecDepth 100000
namespace Mine

theorem sl_le (b : List UInt8) (i m : Nat) : (sl b i m).length ≤ m := by
  unfold sl; rw [List.length_drop, List.length_take]; omega
theorem ps_run (b : List UInt8) (i : Nat) (hi : i < b.length) (hb : b.length ≤ 100000) (hw : at_ b i ≤ 78) : psT b (i : Int) = some (.int (psP b i : Nat)) := by
  unfold psT psP
  rw [bAt rfl hi (by omega)]
  by_cases h : at_ b i < 76
  · rw [condT (by omega), if_pos h]
  · rw [condF (by omega), if_neg h, show ((at_ b i : Nat) : Int) - 76 = ((at_ b i - 76 : Nat) : Int) by omega]
    have hp : at_ b i - 76 = 0 ∨ at_ b i - 76 = 1 ∨ at_ b i - 76 = 2 := by omega
    have hs : 2 ^ (at_ b i - 76) ≤ 4 := by rcases hp with h | h | h <;> rw [h] <;> decide
    rw [pow2_ok (by omega)]
    generalize 2 ^ (at_ b i - 76) = s at *
    rw [show (i : Int) + 1 = ((i + 1 : Nat) : Int) by omega, show ((i + 1 : Nat) : Int) + (s : Int) = ((i + 1 + s : Nat) : Int) by omega]
    rw [cutAt_ok (by omega) (by omega) (by omega)]
    have : (sl b (i + 1) s).length ≤ s := sl_le b (i + 1) s
    exact fromB_ok (show (sl b (i + 1) s).length ≤ 8 by omega)
theorem co_run (i : Nat) (hi : i < 256) : coT (i : Int) = some (.str (coP i)) := by
  unfold coT coP
  by_cases h1 : i = 79
  · rw [condT (by omega), if_pos h1]
  · rw [condF (by omega), if_neg h1]
    dsimp only
    unfold lookI
    by_cases h2 : i = 255
    · subst h2; rfl
    · have e2 : decide ((i : Int) = 255) = false := decide_eq_false (by omega)
      rw [e2, if_neg h2]
      by_cases h3 : 81 ≤ i ∧ i ≤ 96
      · rw [condT (by omega), condT (by omega), if_pos h3, gateT (show small ((i : Int) - 80) = true from decide_eq_true (by omega))]
      · rw [if_neg h3]
        by_cases h4 : 81 ≤ i
        · rw [condT (by omega), condF (by omega)]
          cases opName.lookup (i : Int) <;> rfl
        · rw [condF (by omega)]
          cases opName.lookup (i : Int) <;> rfl
end Mine
end

/-! Sp25 -/
section
open PySem
set_option maxRecDepth 100000
namespace Mine

def oiT (i : Int) : Option PV :=
  bif decide (i = -1) then some (.str (Str.ofString "OP_1NEGATE")) else
  bif decide (0 ≤ i) then (bif decide (i ≤ 16) then gate (small i) (some (.str (Str.ofString "OP_" ++ Str.ofString (toString i)))) else none) else none
theorem oi_tree (i : Int) (h0 : 0 ≤ i) (h1 : i ≤ 16) : runF base "op_int" [.int i] = oiT i := by
  have : i = 0 ∨ i = 1 ∨ i = 2 ∨ i = 3 ∨ i = 4 ∨ i = 5 ∨ i = 6 ∨ i = 7 ∨ i = 8 ∨ i = 9 ∨ i = 10 ∨ i = 11 ∨ i = 12 ∨ i = 13 ∨ i = 14 ∨ i = 15 ∨ i = 16 := by omega
  rcases this with h | h | h | h | h | h | h | h | h | h | h | h | h | h | h | h | h <;> subst h <;> kernel_rfl
theorem oi_neg : runF base "op_int" [.int (-1)] = oiT (-1) := by kernel_rfl
theorem io_bytes (b : List UInt8) : runF base "is_octets" [.bytes b] = some (.bool true) := by kernel_rfl
theorem io_str (b : Str) : runF base "is_octets" [.str b] = some (.bool true) := by kernel_rfl
theorem io_lst (b : List PV) : runF base "is_octets" [.lst b] = some (.bool false) := by kernel_rfl
end Mine
end

/-! Sp26 -/
section
open PySem
set_option maxRecDepth 100000
namespace Mine

/-- op_int on small numbers -/
def oiF : Fun := fun as ks k => match as, ks with
  | [.int i], [] => gate (decide (-1 ≤ i) && decide (i ≤ 16)) (k (.str (bif decide (i = -1) then Str.ofString "OP_1NEGATE" else Str.ofString "OP_" ++ Str.ofString (toString i))))
  | _, _ => none
/-- encode_num on numbers of 64 bits -/
def enF : Fun := fun as ks k => match as, ks with
  | [.int i], [] => gate (decide (-9223372036854775808 ≤ i) && decide (i ≤ 9223372036854775807)) (k (.bytes (encP i)))
  | _, _ => none
def T6 : Tbl := tb [(nm "op_int", oiF), (nm "encode_num", enF)]
def piOp (i : Int) : Str := bif decide (i = -1) then Str.ofString "OP_1NEGATE" else Str.ofString "OP_" ++ Str.ofString (toString i)
def piHex (i : Int) : Option PV := gate (decide (-9223372036854775808 ≤ i) && decide (i ≤ 9223372036854775807)) (gate (lenOk (encP i).length) (some (.str (hexS (encP i)))))
theorem pi_tree (i : Int) : runF T6 "push_int" [.int i] = (bif decide (-1 ≤ i) then (bif decide (i ≤ 16) then gate (decide (-1 ≤ i) && decide (i ≤ 16)) (some (.str (piOp i))) else piHex i) else piHex i) := by kernel_rfl
/-- a number's push, as text: its name, or its octets -/
def piP (i : Int) : Str := if -1 ≤ i ∧ i ≤ 16 then piOp i else hexS (encP i)
theorem encP_len {z : Int} (lo : -9223372036854775808 ≤ z) (hi : z ≤ 9223372036854775807) : (encP z).length ≤ 9 := by
  by_cases h0 : z = 0
  · subst h0; decide +kernel
  have h63 : z.natAbs < 2 ^ 64 := by omega
  have h9 : z.natAbs < 256 ^ 3999 := Nat.lt_of_lt_of_le h63 (Nat.le_trans (show 2 ^ 64 ≤ 256 ^ 9 by decide) (Nat.pow_le_pow_right (by decide) (by decide)))
  obtain ⟨o1, o2, o3⟩ := octD_le h0 h9
  have bl : Builtin.Int.intBits z ≤ 64 := intBits_le_iff.mpr h63
  unfold encP
  rw [List.length_map, encD_eq]
  split
  · simp; omega
  · omega
theorem pi_run (i : Int) (lo : -9223372036854775808 ≤ i) (hi : i ≤ 9223372036854775807) : runF T6 "push_int" [.int i] = some (.str (piP i)) := by
  have hx : piHex i = some (.str (hexS (encP i))) := by
    have := encP_len lo hi
    unfold piHex
    rw [gateT (by rw [decide_eq_true lo, decide_eq_true hi]; rfl), gateT (lenT (by omega))]
  rw [pi_tree, hx]
  unfold piP
  by_cases h1 : -1 ≤ i
  · rw [condT h1]
    by_cases h2 : i ≤ 16
    · rw [condT h2, if_pos ⟨h1, h2⟩, gateT (by rw [decide_eq_true h1, decide_eq_true h2]; rfl)]
    · rw [condF h2, if_neg (by omega)]
  · rw [condF h1, if_neg (by omega)]
end Mine
end

/-! Se4 -/
section
open PySem
set_option maxRecDepth 100000
namespace Mine
def siT : Tbl := tb [(nm "encode_num", enF), (nm "_serialize_bytes_command", sbF)]
theorem si_tree (i : Int) : runF siT "_serialize_int_command" [.int i] = gate (decide (-9223372036854775808 ≤ i) && decide (i ≤ 9223372036854775807)) (gate (decide ((encP i).length < 65536)) (some (.bytes (laidB (encP i))))) := by kernel_rfl
theorem aa_tree (x : Str) : runF base "_assert_ascii_command" [.str x] = bif (!asciiB x) then none else some .none := by kernel_rfl
def aaF : Fun := fun as ks k => match as, ks with
  | [.str x], [] => gate (asciiB x) (k .none)
  | _, _ => none
def ssT : Tbl := tb [(nm "_assert_ascii_command", aaF), (nm "_serialize_bytes_command", sbF)]
def wsS : Str := nm " \t\n\r\x0b\x0c"
theorem ss_tree (x : Str) : runF ssT "_serialize_str_command" [.str x] = gate (asciiB x) (gate (lenOk (stripS wsS x).length) (
   bif (opByte.lookup (stripS wsS x)).isSome then (match opByte.lookup (stripS wsS x) with | some b => some (.bytes b) | none => none) else
   bif (opUnk.lookup (stripS wsS x)).isSome then (match opUnk.lookup (stripS wsS x) with | some b => some (.bytes b) | none => none) else
   (match hxS (stripS wsS x) with
    | some b => gate (lenOk b.length) (gate (decide (b.length < 65536)) (some (.bytes (laidB b))))
    | none => none))) := by kernel_rfl

def siF : Fun := fun as ks k => match as, ks with
  | [.int i], [] => gate (decide (-9223372036854775808 ≤ i) && decide (i ≤ 9223372036854775807)) (k (.bytes (laidB (encP i))))
  | _, _ => none
/-- what a text stands for -/
def ssP (x : Str) : Option (List UInt8) := bif asciiB x && lenOk (stripS wsS x).length then (match opByte.lookup (stripS wsS x) with
  | some b => some b
  | none => match opUnk.lookup (stripS wsS x) with
    | some b => some b
    | none => match hxS (stripS wsS x) with
      | some b => bif lenOk b.length && decide (b.length < 65536) then some (laidB b) else none
      | none => none) else none
def ssF : Fun := fun as ks k => match as, ks with
  | [.str x], [] => match ssP x with
    | some b => k (.bytes b)
    | none => none
  | _, _ => none
def ioF : Fun := fun as ks k => match as, ks with
  | [.lst _], [] => k (.bool false)
  | _, _ => none
def seT : Tbl := tb [(nm "is_octets", ioF), (nm "_serialize_int_command", siF), (nm "_serialize_str_command", ssF), (nm "_serialize_bytes_command", sbF)]
def seA (ps out : List PV) (o : Option PV) : Vars := (nm "script", .val (.lst ps)) :: (nm "r", .own out) :: (match o with
  | none => []
  | some p => [(nm "command", .val p)])
def seKf : KS := fun f σ => match f with
  | .next => exList (exN seT (scOf "serialize") 16 4000 8) ((bodyOf "serialize").drop 3) σ kEnd
  | .ret p => some p
  | _ => none
theorem se_pre (ps : List PV) (k : KS) : exList (exN seT (scOf "serialize") 16 4000 8) ((bodyOf "serialize").take 2) (valsOf [(nm "script", .lst ps)]) k = k .next (seA ps [] none) := by kernel_rfl
theorem se_for (ps out : List PV) (k : KS) : exN seT (scOf "serialize") 16 4000 8 ((bodyOf "serialize").getD 2 default) (seA ps out none) k = gate (lenOk ps.length) (forF seT "serialize" ps (seA ps out none) k) := by kernel_rfl
theorem se_int (ps out l : List PV) (o : Option PV) (i : Int) : forF seT "serialize" (.int i :: l) (seA ps out o) seKf = gate (decide (-9223372036854775808 ≤ i) && decide (i ≤ 9223372036854775807)) (gate (lenOk out.length) (forF seT "serialize" l (seA ps (out ++ [.bytes (laidB (encP i))]) (some (.int i))) seKf)) := by cases o <;> kernel_rfl
theorem se_str (ps out l : List PV) (o : Option PV) (x : Str) : forF seT "serialize" (.str x :: l) (seA ps out o) seKf = match ssP x with
  | some b => gate (lenOk out.length) (forF seT "serialize" l (seA ps (out ++ [.bytes b]) (some (.str x))) seKf)
  | none => none := by cases o <;> kernel_rfl
theorem se_bytes (ps out l : List PV) (o : Option PV) (b : List UInt8) : forF seT "serialize" (.bytes b :: l) (seA ps out o) seKf = gate (decide (b.length < 65536)) (gate (lenOk out.length) (forF seT "serialize" l (seA ps (out ++ [.bytes (laidB b)]) (some (.bytes b))) seKf)) := by cases o <;> kernel_rfl
theorem se_end (ps out : List PV) (o : Option PV) : forF seT "serialize" [] (seA ps out o) seKf = bjoinF [] [.lst out] [] fun p => some p := by cases o <;> kernel_rfl
end Mine
end

/-! Se5 -/
section
open PySem
set_option maxRecDepth 100000
namespace Mine
def cmdP : PV → Option (List UInt8)
  | .int i => if -9223372036854775808 ≤ i ∧ i ≤ 9223372036854775807 then some (laidB (encP i)) else none
  | .str x => ssP x
  | .bytes b => if b.length < 65536 then some (laidB b) else none
  | _ => none
theorem se_kf (f : Fl) (σ : Vars) : (match f with
    | .next => exList (exN seT (scOf "serialize") 16 4000 8) ((bodyOf "serialize").drop 3) σ kEnd
    | .brk => kEnd .brk σ
    | .cnt => kEnd .cnt σ
    | .ret p => kEnd (.ret p) σ) = seKf f σ := by cases f <;> rfl
theorem se_split (σ : Vars) : exList (exN seT (scOf "serialize") 16 4000 8) ((bodyOf "serialize").drop 2) σ kEnd = exN seT (scOf "serialize") 16 4000 8 ((bodyOf "serialize").getD 2 default) σ fun f σ' => match f with
    | .next => exList (exN seT (scOf "serialize") 16 4000 8) ((bodyOf "serialize").drop 3) σ' kEnd
    | .brk => kEnd .brk σ'
    | .cnt => kEnd .cnt σ'
    | .ret p => kEnd (.ret p) σ' := by kernel_rfl
theorem se_loop0 (ps : List PV) : exList (exN seT (scOf "serialize") 16 4000 8) ((bodyOf "serialize").drop 2) (seA ps [] none) kEnd = gate (lenOk ps.length) (forF seT "serialize" ps (seA ps [] none) seKf) := by
  rw [se_split, se_for]
  congr 2
  funext f σ
  exact se_kf f σ
theorem toBs_map (bs : List (List UInt8)) : toBs (bs.map .bytes) = some bs := by
  induction bs with
  | nil => rfl
  | cons b bs ih => rw [List.map_cons]; unfold toBs; rw [ih]
theorem se_loop (ps : List PV) : ∀ (l : List PV) (bs : List (List UInt8)) (out : List (List UInt8)) (o : Option PV), l.map cmdP = bs.map some → out.length + l.length ≤ 1000000 → (out ++ bs).flatten.length ≤ 1000000 →
    forF seT "serialize" l (seA ps (out.map .bytes) o) seKf = some (.bytes (out ++ bs).flatten) := by
  intro l
  induction l with
  | nil =>
    intro bs out o h hn hl
    cases bs with
    | nil =>
      rw [se_end, List.append_nil]
      rw [List.append_nil] at hl
      show (match toBs (out.map .bytes) with | some bs => gate (lenOk bs.flatten.length) (some (.bytes bs.flatten)) | none => none) = _
      rw [toBs_map]
      exact gateT (lenT hl)
    | cons b bs => cases h
  | cons p l ih =>
    intro bs out o h hn hl
    cases bs with
    | nil => cases h
    | cons b bs =>
      rw [List.map_cons, List.map_cons] at h
      have h1 : cmdP p = some b := by injection h
      have h2 : l.map cmdP = bs.map some := by injection h
      rw [List.length_cons] at hn
      have e1 : (out.map PV.bytes) ++ [.bytes b] = (out ++ [b]).map .bytes := by simp
      have e2 : out ++ b :: bs = (out ++ [b]) ++ bs := by simp
      have lo : lenOk (out.map PV.bytes).length = true := lenT (by rw [List.length_map]; omega)
      have go := fun o => ih bs (out ++ [b]) o h2 (by simp; omega) (by rw [← e2]; exact hl)
      rw [e2, ← go (some p)]
      cases p with
      | int i =>
        simp only [cmdP] at h1
        split at h1
        · rename_i c; cases h1
          rw [se_int, gateT (by rw [decide_eq_true c.1, decide_eq_true c.2]; rfl), gateT lo, e1]
        · cases h1
      | str x =>
        simp only [cmdP] at h1
        rw [se_str, h1]
        dsimp only
        rw [gateT lo, e1]
      | bytes x =>
        simp only [cmdP] at h1
        split at h1
        · rename_i c; cases h1
          rw [se_bytes, gateT (decide_eq_true c), gateT lo, e1]
        · cases h1
      | _ => cases h1
theorem se_run (ps : List PV) (bs : List (List UInt8)) (h : ps.map cmdP = bs.map some) (hn : ps.length ≤ 1000000) (hl : bs.flatten.length ≤ 1000000) : runF seT "serialize" [.lst ps] = some (.bytes bs.flatten) := by
  show run seT (scOf "serialize") (bodyOf "serialize") (valsOf [(nm "script", .lst ps)]) = _
  rw [run_split seT "serialize" 2, se_pre]
  dsimp only
  rw [se_loop0, gateT (lenT hn)]
  exact se_loop ps ps bs [] none h (by simpa using hn) (by simpa using hl)
def opts : List (Option (List UInt8)) → Option (List (List UInt8))
  | [] => some []
  | some b :: l => match opts l with | some r => some (b :: r) | none => none
  | none :: _ => none
theorem opts_some : ∀ {l : List (Option (List UInt8))} {r : List (List UInt8)}, opts l = some r → l = r.map some
  | [], _, h => by cases h; rfl
  | some b :: l, r, h => by
    unfold opts at h
    split at h
    · rename_i q hq; cases h; rw [opts_some hq]; rfl
    · cases h
  | none :: _, _, h => by cases h
theorem opts_map (r : List (List UInt8)) : opts (r.map some) = some r := by
  induction r with
  | nil => rfl
  | cons b r ih => rw [List.map_cons]; unfold opts; rw [ih]
/-- serialize on a list of commands -/
def seF : Fun := fun as ks k => match as, ks with
  | [.lst ps], [] => match opts (ps.map cmdP) with
    | some bs => gate (lenOk ps.length && lenOk bs.flatten.length) (k (.bytes bs.flatten))
    | none => none
  | _, _ => none
theorem seF_ok {as : List PV} {ks : List (Str × PV)} {k : PV → Option PV} {r : PV} (h : seF as ks k = some r) : ks = [] ∧ ∃ ps p, as = [.lst ps] ∧ runF seT "serialize" [.lst ps] = some p ∧ k p = some r := by
  unfold seF at h
  split at h
  · rename_i ps
    split at h
    · rename_i bs hbs
      obtain ⟨g, h⟩ := gate_some h
      obtain ⟨g1, g2⟩ := and_split g
      exact ⟨rfl, ps, _, rfl, se_run ps bs (opts_some hbs) (lenOk_le g1) (lenOk_le g2), h⟩
    · cases h
  · cases h
end Mine
end

/-! Lw1 -/
section
open PySem
set_option maxRecDepth 100000
namespace Mine
def stb (f : String) (i : Nat) : Stmt := (bodyOf f).getD i (.Pass ⟨0, 0, 0, 0⟩)
abbrev exG (f : String) : Stmt → Vars → KS → Option PV := exN base (scOf f) 16 4000 8
def gN (m : Int) (r : Vars) : Vars := (nm "number", .val (.int m)) :: r
def g1 (o : List UInt8) (r : Vars) : Vars := (nm "one", .val (.bytes o)) :: r
def g2 (o : List UInt8) (r : Vars) : Vars := (nm "other", .val (.bytes o)) :: r
def b1T (x : Int) (k : List UInt8 → Option PV) : Option PV := gate ((inB x && true) && lenOk 1) (k [u8 x])
def mulT (b : List UInt8) (n : Int) (k : List UInt8 → Option PV) : Option PV := gate (decide (0 ≤ n) && decide (n ≤ 1000) && decide (b.length = 1)) (k (bytesMul b n.toNat))
def catB (a b : List UInt8) (k : List UInt8 → Option PV) : Option PV := gate (lenOk (a.length + b.length)) (k (a ++ b))
def pick5 (i : Int) (k : List UInt8 → Option PV) : Option PV := itemK (.lst [.bytes [0, 128], .bytes [5], .bytes [0, 5], .bytes [128], .bytes []]) (.int i) fun p => match p with
  | .bytes b => k b
  | _ => none
theorem ls0 (m : Int) (k : KS) : exG "_law_signature" (stb "_law_signature" 0) (gN m []) k = b1T (1 + m.fmod 127) fun x => mulT x (1 + (m.fdiv 127).fmod 33) fun o => k .next (gN m (g1 o [])) := by kernel_rfl
theorem ls1 (m : Int) (o : List UInt8) (k : KS) : exG "_law_signature" (stb "_law_signature" 1) (gN m (g1 o [])) k = bif decide ((m.fdiv 17).fmod 3 = 0) then (itemK (.lst [.bytes [0, 128], .bytes [5], .bytes [0, 5], .bytes [128], .bytes []]) (.int ((m.fdiv 51).fmod 5)) fun p => b1T 9 fun x => mulT x ((m.fdiv 255).fmod 30) fun o => binK .Add p (.bytes o) fun r => k .next (putV (gN m (g1 o [])) (nm "one") (.val r))) else k .next (gN m (g1 o [])) := by kernel_rfl

def l5 : PV := .lst [.bytes [0, 128], .bytes [5], .bytes [0, 5], .bytes [128], .bytes []]
theorem ls2 (m : Int) (o : List UInt8) (k : KS) : exG "_law_signature" (stb "_law_signature" 2) (gN m (g1 o [])) k = itemK l5 (.int ((m.fdiv 3).fmod 5)) fun p => b1T 9 fun x => mulT x ((m.fdiv 15).fmod 30) fun y => binK .Add p (.bytes y) fun r => k .next (putV (gN m (g1 o [])) (nm "other") (.val r)) := by kernel_rfl
def b2T (x y : Int) (k : List UInt8 → Option PV) : Option PV := gate ((inB x && (inB y && true)) && lenOk 2) (k [u8 x, u8 y])
theorem ls3 (m : Int) (o u : List UInt8) (k : KS) : exG "_law_signature" (stb "_law_signature" 3) (gN m (g1 o (g2 u []))) k = lenB o fun n => b2T 2 n fun x => catB x o fun y => lenB u fun n2 => b2T 2 n2 fun z => catB y z fun v => catB v u fun w => k .next (gN m (g1 o (g2 u [(nm "inner", .val (.bytes w))]))) := by kernel_rfl
def l8 : PV := .lst [.int 1, .int 2, .int 3, .int 129, .int 130, .int 131, .int 0, .int 4]
theorem ls4 (m : Int) (o u i : List UInt8) (k : KS) : exG "_law_signature" (stb "_law_signature" 4) (gN m (g1 o (g2 u [(nm "inner", .val (.bytes i))]))) k =
   (let rest := fun z => b2T 48 z fun x => catB x i fun y => itemK l8 (.int ((m.fdiv 7).fmod 8)) fun p => bytesF [.lst [p]] [] fun r => binK .Add (.bytes y) r fun w => k (.ret w) (gN m (g1 o (g2 u [(nm "inner", .val (.bytes i))])))
    lenB i fun n => bif decide (m.fmod 11 = 0) then rest (n + 1) else rest (n + 0)) := by kernel_rfl
end Mine
end

/-! Lw2 -/
section
open PySem
set_option maxRecDepth 100000
namespace Mine
theorem fm_lo (m : Int) {k : Int} (hk : 0 < k) : 0 ≤ m.fmod k := Int.fmod_nonneg_of_pos m hk
theorem fm_hi (m : Int) {k : Int} (hk : 0 < k) : m.fmod k < k := Int.fmod_lt_of_pos m hk
theorem b1T_ok {x : Int} {k : List UInt8 → Option PV} (h0 : 0 ≤ x) (h1 : x < 256) : b1T x k = k [u8 x] := gateT (by rw [inBT h0 h1]; rfl)
theorem b2T_ok {x y : Int} {k : List UInt8 → Option PV} (h0 : 0 ≤ x) (h1 : x < 256) (h2 : 0 ≤ y) (h3 : y < 256) : b2T x y k = k [u8 x, u8 y] := gateT (by rw [inBT h0 h1, inBT h2 h3]; rfl)
theorem bytesMul_len (b : List UInt8) (n : Nat) : (bytesMul b n).length = b.length * n := by
  induction n with
  | zero => rfl
  | succ n ih => show (b ++ bytesMul b n).length = _; rw [List.length_append, ih, Nat.mul_succ, Nat.add_comm]
theorem mulT_ok {b : List UInt8} {n : Int} {k : List UInt8 → Option PV} (hb : b.length = 1) (h0 : 0 ≤ n) (h1 : n ≤ 1000) : mulT b n k = k (bytesMul b n.toNat) := gateT (by rw [decide_eq_true h0, decide_eq_true h1, decide_eq_true hb]; rfl)
theorem catB_ok {a b : List UInt8} {k : List UInt8 → Option PV} (h : a.length + b.length ≤ 1000000) : catB a b k = k (a ++ b) := gateT (lenT h)
theorem addB_ok {a b : List UInt8} {k : K} (h : a.length + b.length ≤ 1000000) : binK .Add (.bytes a) (.bytes b) k = k (.bytes (a ++ b)) := gateT (lenT h)
theorem l5_ok (i : Int) (h0 : 0 ≤ i) (h1 : i < 5) : ∃ b : List UInt8, b.length ≤ 2 ∧ ∀ k, itemK l5 (.int i) k = k (.bytes b) := by
  have : i = 0 ∨ i = 1 ∨ i = 2 ∨ i = 3 ∨ i = 4 := by omega
  rcases this with rfl | rfl | rfl | rfl | rfl
  · exact ⟨[0, 128], by decide, fun k => by kernel_rfl⟩
  · exact ⟨[5], by decide, fun k => by kernel_rfl⟩
  · exact ⟨[0, 5], by decide, fun k => by kernel_rfl⟩
  · exact ⟨[128], by decide, fun k => by kernel_rfl⟩
  · exact ⟨[], by decide, fun k => by kernel_rfl⟩
theorem l8_ok (i : Int) (h0 : 0 ≤ i) (h1 : i < 8) : ∃ q : Int, 0 ≤ q ∧ q < 256 ∧ ∀ k, itemK l8 (.int i) k = k (.int q) := by
  have : i = 0 ∨ i = 1 ∨ i = 2 ∨ i = 3 ∨ i = 4 ∨ i = 5 ∨ i = 6 ∨ i = 7 := by omega
  rcases this with rfl | rfl | rfl | rfl | rfl | rfl | rfl | rfl
  · exact ⟨1, by decide, by decide, fun k => by kernel_rfl⟩
  · exact ⟨2, by decide, by decide, fun k => by kernel_rfl⟩
  · exact ⟨3, by decide, by decide, fun k => by kernel_rfl⟩
  · exact ⟨129, by decide, by decide, fun k => by kernel_rfl⟩
  · exact ⟨130, by decide, by decide, fun k => by kernel_rfl⟩
  · exact ⟨131, by decide, by decide, fun k => by kernel_rfl⟩
  · exact ⟨0, by decide, by decide, fun k => by kernel_rfl⟩
  · exact ⟨4, by decide, by decide, fun k => by kernel_rfl⟩
theorem sg0 (m : Int) : ∃ o : List UInt8, o.length ≤ 33 ∧ ∀ k, exG "_law_signature" (stb "_law_signature" 0) (gN m []) k = k .next (gN m (g1 o [])) := by
  have a := fm_lo m (k := 127) (by decide)
  have b := fm_hi m (k := 127) (by decide)
  have c := fm_lo (m.fdiv 127) (k := 33) (by decide)
  have d := fm_hi (m.fdiv 127) (k := 33) (by decide)
  refine ⟨_, ?_, fun k => by rw [ls0, b1T_ok (by omega) (by omega), mulT_ok rfl (by omega) (by omega)]⟩
  rw [bytesMul_len]; simp; omega
theorem part5 (i n : Int) (h0 : 0 ≤ i) (h1 : i < 5) (h2 : 0 ≤ n) (h3 : n < 30) : ∃ o : List UInt8, o.length ≤ 33 ∧ ∀ k : K, (itemK l5 (.int i) fun p => b1T 9 fun x => mulT x n fun o => binK .Add p (.bytes o) k) = k (.bytes o) := by
  obtain ⟨b, hb, e⟩ := l5_ok i h0 h1
  have l : (bytesMul [u8 9] n.toNat).length ≤ 30 := by rw [bytesMul_len]; simp; omega
  refine ⟨b ++ bytesMul [u8 9] n.toNat, by rw [List.length_append]; omega, fun k => ?_⟩
  rw [e, b1T_ok (by decide) (by decide), mulT_ok rfl h2 (by omega), addB_ok (by omega)]
theorem sg1 (m : Int) (o : List UInt8) (ho : o.length ≤ 33) : ∃ o' : List UInt8, o'.length ≤ 33 ∧ ∀ k, exG "_law_signature" (stb "_law_signature" 1) (gN m (g1 o [])) k = k .next (gN m (g1 o' [])) := by
  by_cases c : (m.fdiv 17).fmod 3 = 0
  · obtain ⟨o', h, e⟩ := part5 ((m.fdiv 51).fmod 5) ((m.fdiv 255).fmod 30) (fm_lo _ (by decide)) (fm_hi _ (by decide)) (fm_lo _ (by decide)) (fm_hi _ (by decide))
    refine ⟨o', h, fun k => ?_⟩
    rw [ls1, decide_eq_true c]
    exact e _
  · refine ⟨o, ho, fun k => ?_⟩
    rw [ls1, decide_eq_false c]; rfl
theorem sg2 (m : Int) (o : List UInt8) : ∃ u : List UInt8, u.length ≤ 33 ∧ ∀ k, exG "_law_signature" (stb "_law_signature" 2) (gN m (g1 o [])) k = k .next (gN m (g1 o (g2 u []))) := by
  obtain ⟨o', h, e⟩ := part5 ((m.fdiv 3).fmod 5) ((m.fdiv 15).fmod 30) (fm_lo _ (by decide)) (fm_hi _ (by decide)) (fm_lo _ (by decide)) (fm_hi _ (by decide))
  refine ⟨o', h, fun k => ?_⟩
  rw [ls2]
  exact e _
theorem sg3 (m : Int) (o u : List UInt8) (ho : o.length ≤ 33) (hu : u.length ≤ 33) : ∃ i : List UInt8, i.length ≤ 70 ∧ ∀ k, exG "_law_signature" (stb "_law_signature" 3) (gN m (g1 o (g2 u []))) k = k .next (gN m (g1 o (g2 u [(nm "inner", .val (.bytes i))]))) := by
  refine ⟨_, ?_, fun k => by
    rw [ls3, lenB_ok (by omega), b2T_ok (by decide) (by decide) (by omega) (by omega), catB_ok (by simp; omega), lenB_ok (by omega), b2T_ok (by decide) (by decide) (by omega) (by omega), catB_ok (by simp; omega), catB_ok (by simp; omega)]⟩
  simp; omega
theorem sg4 (m : Int) (o u i : List UInt8) (hi : i.length ≤ 70) : ∃ r : List UInt8, r.length ≤ 73 ∧ ∀ k, exG "_law_signature" (stb "_law_signature" 4) (gN m (g1 o (g2 u [(nm "inner", .val (.bytes i))]))) k = k (.ret (.bytes r)) (gN m (g1 o (g2 u [(nm "inner", .val (.bytes i))]))) := by
  obtain ⟨q, q0, q1, e⟩ := l8_ok ((m.fdiv 7).fmod 8) (fm_lo _ (by decide)) (fm_hi _ (by decide))
  have go : ∀ z : Int, 0 ≤ z → z < 256 → ∀ k : PV → Option PV, (b2T 48 z fun x => catB x i fun y => itemK l8 (.int ((m.fdiv 7).fmod 8)) fun p => bytesF [.lst [p]] [] fun r => binK .Add (.bytes y) r k) = k (.bytes (([u8 48, u8 z] ++ i) ++ [u8 q])) := by
    intro z h0 h1 k
    rw [b2T_ok (by decide) (by decide) h0 h1, catB_ok (by simp; omega), e]
    show (gate (([q].all inB) && lenOk 1) _) = _
    rw [gateT (by show (inB q && true) && lenOk 1 = true; rw [inBT q0 q1]; rfl)]
    exact addB_ok (by simp; omega)
  by_cases c : m.fmod 11 = 0
  · refine ⟨_, ?_, fun k => by
      rw [ls4]
      dsimp only
      rw [lenB_ok (by omega), decide_eq_true c]
      exact go ((i.length : Nat) + 1) (by omega) (by omega) _⟩
    simp; omega
  · refine ⟨_, ?_, fun k => by
      rw [ls4]
      dsimp only
      rw [lenB_ok (by omega), decide_eq_false c]
      exact go ((i.length : Nat) + 0) (by omega) (by omega) _⟩
    simp; omega
theorem sig_body : bodyOf "_law_signature" = [stb "_law_signature" 0, stb "_law_signature" 1, stb "_law_signature" 2, stb "_law_signature" 3, stb "_law_signature" 4] := by with_unfolding_all rfl
theorem sig_run (m : Int) : ∃ r : List UInt8, r.length ≤ 73 ∧ runF base "_law_signature" [.int m] = some (.bytes r) := by
  obtain ⟨o, ho, e0⟩ := sg0 m
  obtain ⟨o', ho', e1⟩ := sg1 m o ho
  obtain ⟨u, hu, e2⟩ := sg2 m o'
  obtain ⟨i, hi, e3⟩ := sg3 m o' u ho' hu
  obtain ⟨r, hr, e4⟩ := sg4 m o' u i hi
  refine ⟨r, hr, ?_⟩
  show exList (exG "_law_signature") (bodyOf "_law_signature") (gN m []) kEnd = _
  rw [sig_body]
  refine (e0 _).trans ((e1 _).trans ((e2 _).trans ((e3 _).trans ((e4 _).trans rfl))))
end Mine
end

/-! Lw3 -/
section
open PySem
set_option maxRecDepth 100000
namespace Mine
def LpT (φl φs φo : Fun) : Tbl := tb [(nm "_law_laid", φl), (nm "_law_signature", φs), (nm "_law_octets", φo)]
abbrev exP' (φl φs φo : Fun) : Stmt → Vars → KS → Option PV := exN (LpT φl φs φo) (scOf "_law_part") 16 4000 8
def kmS (m x y : Int) : Vars := [(nm "number", .val (.int m)), (nm "kind", .val (.int x)), (nm "more", .val (.int y))]
section
variable (φl φs φo : Fun) (m x y : Int) (k : KS)
theorem lp0 : exP' φl φs φo (stb "_law_part" 0) (gN m []) k = k .next (kmS m (m.fmod 8) (m.fdiv 8)) := by kernel_rfl
theorem lp1 : exP' φl φs φo (stb "_law_part" 1) (kmS m x y) k = bif decide (x < 2) then b1T (y.fmod 256) fun r => k (.ret (.bytes r)) (kmS m x y) else k .next (kmS m x y) := by kernel_rfl
theorem lp2 : exP' φl φs φo (stb "_law_part" 2) (kmS m x y) k = bif decide (x = 2) then φs [.int y] [] fun p => φl [p] [] fun r => k (.ret r) (kmS m x y) else k .next (kmS m x y) := by kernel_rfl
def rngT (n : Int) (f : PV → K → Option PV) (k : K) : Option PV := gate (decide (0 ≤ n)) (gate (lenOk ((List.range n.toNat).map fun i => PV.int (Int.ofNat i)).length) (compK f ((List.range n.toNat).map fun i => PV.int (Int.ofNat i)) fun ys => k (.lst ys)))
theorem lp3 : exP' φl φs φo (stb "_law_part" 3) (kmS m x y) k = bif decide (x = 3) then (rngT (y.fmod 7) (fun x kk => binK .Add (.int y) x fun a => binK .Mod a (.int 256) kk) fun l => bytesF [l] [] fun oc =>
   itemK (.lst [.int 76, .int 77, .int 78]) (.int ((y.fdiv 7).fmod 3)) fun p => lenF [oc] [] fun n => itemK (.lst [.int 0, .int 1, .int 3]) (.int ((y.fdiv 7).fmod 3)) fun c => match c with
     | .int c => gate (decide (0 ≤ c) && decide (c ≤ 1000) && lenOk (1 * c.toNat)) (binK .Add (.lst [p, n]) (.lst (listMul [.int 0] c.toNat)) fun q => bytesF [q] [] fun r => binK .Add r oc fun w => k (.ret w) (putV (kmS m x y) (nm "octets") (.val oc)))
     | _ => none) else k .next (kmS m x y) := by kernel_rfl
theorem lp4 : exP' φl φs φo (stb "_law_part" 4) (kmS m x y) k = bif decide (x = 4) then (b1T (60 + (y.fdiv 24).fmod 16) fun o => itemK (.lst [.int (70 + y.fmod 12), .int (250 + y.fmod 12)]) (.int ((y.fdiv 12).fmod 2)) fun p => binK .Mult (.bytes o) p fun q => φl [q] [] fun r => k (.ret r) (kmS m x y)) else k .next (kmS m x y) := by kernel_rfl
theorem lp5 : exP' φl φs φo (stb "_law_part" 5) (kmS m x y) k = bif decide (x = 5) then (φo [.int (y.fmod 70000 - 300)] [] fun p => φl [p] [] fun r => k (.ret r) (kmS m x y)) else k .next (kmS m x y) := by kernel_rfl
theorem lp6 : exP' φl φs φo (stb "_law_part" 6) (kmS m x y) k = rngT ((y.fdiv 3).fmod 40) (fun x kk => binK .Mult (.int 5) x fun a => binK .Add (.int y) a fun b => binK .Mod b (.int 256) kk) fun l => bytesF [l] [] fun oc => φl [oc] [] fun r => k (.ret r) (kmS m x y) := by kernel_rfl
theorem lp_body : bodyOf "_law_part" = [stb "_law_part" 0, stb "_law_part" 1, stb "_law_part" 2, stb "_law_part" 3, stb "_law_part" 4, stb "_law_part" 5, stb "_law_part" 6] := by with_unfolding_all rfl
end
end Mine
end

/-! Lw4 -/
section
open PySem
set_option maxRecDepth 100000
namespace Mine
theorem toInts_map (is : List Int) : toInts (is.map .int) = some is := by
  induction is with
  | nil => rfl
  | cons i is ih => rw [List.map_cons]; unfold toInts; rw [ih]
theorem bytesF_ok {is : List Int} {k : K} (h : ∀ i ∈ is, 0 ≤ i ∧ i < 256) (hl : is.length ≤ 1000000) : bytesF [.lst (is.map .int)] [] k = k (.bytes (is.map u8)) := by
  show (match toInts (is.map .int) with | some is => gate (is.all inB && lenOk is.length) (k (.bytes (is.map u8))) | none => none) = _
  rw [toInts_map]
  refine gateT ?_
  rw [lenT hl, List.all_eq_true.mpr fun i hi => inBT (h i hi).1 (h i hi).2]; rfl
theorem comp_ok {f : PV → K → Option PV} {g : Nat → Int} : ∀ (l : List Nat) (k : List PV → Option PV), (∀ i ∈ l, ∀ kk, f (.int (Int.ofNat i)) kk = kk (.int (g i))) → compK f (l.map fun i => PV.int (Int.ofNat i)) k = k ((l.map g).map .int)
  | [], k, _ => rfl
  | i :: l, k, h => by
    show f (.int (Int.ofNat i)) (fun y => compK f (l.map fun i => PV.int (Int.ofNat i)) fun ys => k (y :: ys)) = _
    rw [h i (.head _), comp_ok l _ fun j hj => h j (.tail _ hj)]
    rfl
theorem rngT_ok {n : Int} {f : PV → K → Option PV} {k : K} (g : Nat → Int) (h0 : 0 ≤ n) (h1 : n ≤ 1000) (h : ∀ i, i < n.toNat → ∀ kk, f (.int (Int.ofNat i)) kk = kk (.int (g i))) : rngT n f k = k (.lst (((List.range n.toNat).map g).map .int)) := by
  unfold rngT
  rw [gateT (decide_eq_true h0), gateT (lenT (by simp; omega)), comp_ok _ _ fun i hi => h i (List.mem_range.mp hi)]
theorem pick3_ok {a b c : Int} (i : Int) (h0 : 0 ≤ i) (h1 : i < 3) : ∃ q : Int, (q = a ∨ q = b ∨ q = c) ∧ ∀ k, itemK (.lst [.int a, .int b, .int c]) (.int i) k = k (.int q) := by
  have : i = 0 ∨ i = 1 ∨ i = 2 := by omega
  rcases this with rfl | rfl | rfl
  · exact ⟨a, .inl rfl, fun k => by kernel_rfl⟩
  · exact ⟨b, .inr (.inl rfl), fun k => by kernel_rfl⟩
  · exact ⟨c, .inr (.inr rfl), fun k => by kernel_rfl⟩
theorem pick2_ok {a b : Int} (i : Int) (h0 : 0 ≤ i) (h1 : i < 2) : ∃ q : Int, (q = a ∨ q = b) ∧ ∀ k, itemK (.lst [.int a, .int b]) (.int i) k = k (.int q) := by
  have : i = 0 ∨ i = 1 := by omega
  rcases this with rfl | rfl
  · exact ⟨a, .inl rfl, fun k => by kernel_rfl⟩
  · exact ⟨b, .inr rfl, fun k => by kernel_rfl⟩
theorem listMul0 (n : Nat) : listMul [PV.int 0] n = (List.replicate n (0 : Int)).map .int := by
  induction n with
  | zero => rfl
  | succ n ih => show [PV.int 0] ++ listMul [PV.int 0] n = _; rw [ih]; rfl
theorem laidB_len (b : List UInt8) : (laidB b).length ≤ b.length + 3 := by
  unfold laidB
  split
  · rw [List.length_cons]; omega
  · split
    · rw [List.length_cons, List.length_cons]; omega
    · rw [List.length_cons, List.length_cons, List.length_cons]; exact Nat.le_refl _
structure PartF (φl φs φo : Fun) : Prop where
  laid : ∀ b k, b.length < 65536 → φl [.bytes b] [] k = k (.bytes (laidB b))
  sig : ∀ m, ∃ r : List UInt8, r.length ≤ 73 ∧ ∀ k, φs [.int m] [] k = k (.bytes r)
  oct : ∀ z, -9223372036854775808 ≤ z → z ≤ 9223372036854775807 → ∃ r : List UInt8, r.length ≤ 10 ∧ ∀ k, φo [.int z] [] k = k (.bytes r)
variable {φl φs φo : Fun}
theorem exl_next {ex : Stmt → Vars → KS → Option PV} {st : Stmt} {rest : List Stmt} {σ σ' : Vars} {k : KS} (h : ∀ k, ex st σ k = k .next σ') : exList ex (st :: rest) σ k = exList ex rest σ' k := h _
theorem exl_ret {ex : Stmt → Vars → KS → Option PV} {st : Stmt} {rest : List Stmt} {σ σ' : Vars} {p : PV} (h : ∀ k, ex st σ k = k (.ret p) σ') : exList ex (st :: rest) σ kEnd = some p := h _
section
variable (φl φs φo : Fun) {m x y : Int}
theorem lpn1 (c : ¬ x < 2) (k : KS) : exP' φl φs φo (stb "_law_part" 1) (kmS m x y) k = k .next (kmS m x y) := by rw [lp1, decide_eq_false c, cond_false]
theorem lpn2 (c : ¬ x = 2) (k : KS) : exP' φl φs φo (stb "_law_part" 2) (kmS m x y) k = k .next (kmS m x y) := by rw [lp2, decide_eq_false c, cond_false]
theorem lpn3 (c : ¬ x = 3) (k : KS) : exP' φl φs φo (stb "_law_part" 3) (kmS m x y) k = k .next (kmS m x y) := by rw [lp3, decide_eq_false c, cond_false]
theorem lpn4 (c : ¬ x = 4) (k : KS) : exP' φl φs φo (stb "_law_part" 4) (kmS m x y) k = k .next (kmS m x y) := by rw [lp4, decide_eq_false c, cond_false]
theorem lpn5 (c : ¬ x = 5) (k : KS) : exP' φl φs φo (stb "_law_part" 5) (kmS m x y) k = k .next (kmS m x y) := by rw [lp5, decide_eq_false c, cond_false]
end
theorem mod_ok (a b : Int) (kk : K) (h : decide (0 < b) = true) : binK .Mod (.int a) (.int b) kk = kk (.int (a.fmod b)) := gateT h
theorem lpr1 (y : Int) : ∃ r : List UInt8, r.length ≤ 300 ∧ ∀ x, x < 2 → ∀ m k, exP' φl φs φo (stb "_law_part" 1) (kmS m x y) k = k (.ret (.bytes r)) (kmS m x y) := by
  refine ⟨[u8 (y.fmod 256)], by simp, fun x c m k => ?_⟩
  rw [lp1, decide_eq_true c, cond_true, b1T_ok (fm_lo y (by decide)) (fm_hi y (by decide))]
theorem lpr2 (Z : PartF φl φs φo) (y : Int) : ∃ r : List UInt8, r.length ≤ 300 ∧ ∀ m k, exP' φl φs φo (stb "_law_part" 2) (kmS m 2 y) k = k (.ret (.bytes r)) (kmS m 2 y) := by
  obtain ⟨r, hr, e⟩ := Z.sig y
  refine ⟨laidB r, Nat.le_trans (laidB_len r) (by omega), fun m k => ?_⟩
  rw [lp2, decide_eq_true rfl, cond_true, e, Z.laid _ _ (by omega)]
theorem lpr4 (Z : PartF φl φs φo) (y : Int) : ∃ r : List UInt8, r.length ≤ 300 ∧ ∀ m k, exP' φl φs φo (stb "_law_part" 4) (kmS m 4 y) k = k (.ret (.bytes r)) (kmS m 4 y) := by
  have a := fm_lo (y.fdiv 24) (k := 16) (by decide)
  have b := fm_hi (y.fdiv 24) (k := 16) (by decide)
  have d0 := fm_lo y (k := 12) (by decide)
  have d1 := fm_hi y (k := 12) (by decide)
  obtain ⟨p, hp, ep⟩ := pick2_ok (a := 70 + y.fmod 12) (b := 250 + y.fmod 12) ((y.fdiv 12).fmod 2) (fm_lo _ (by decide)) (fm_hi _ (by decide))
  have hl : (bytesMul [u8 (60 + (y.fdiv 24).fmod 16)] p.toNat).length ≤ 262 := by rw [bytesMul_len]; simp; omega
  refine ⟨_, Nat.le_trans (laidB_len (bytesMul [u8 (60 + (y.fdiv 24).fmod 16)] p.toNat)) (by omega), fun m k => ?_⟩
  rw [lp4, decide_eq_true rfl, cond_true, b1T_ok (by omega) (by omega), ep]
  show mulT [_] p (fun q => φl [.bytes q] [] _) = _
  rw [mulT_ok rfl (by omega) (by omega), Z.laid _ _ (by omega)]
theorem lpr5 (Z : PartF φl φs φo) (y : Int) : ∃ r : List UInt8, r.length ≤ 300 ∧ ∀ m k, exP' φl φs φo (stb "_law_part" 5) (kmS m 5 y) k = k (.ret (.bytes r)) (kmS m 5 y) := by
  have a := fm_lo y (k := 70000) (by decide)
  have b := fm_hi y (k := 70000) (by decide)
  obtain ⟨r, hr, e⟩ := Z.oct (y.fmod 70000 - 300) (by omega) (by omega)
  refine ⟨laidB r, Nat.le_trans (laidB_len r) (by omega), fun m k => ?_⟩
  rw [lp5, decide_eq_true rfl, cond_true, e, Z.laid _ _ (by omega)]
theorem lpr6 (Z : PartF φl φs φo) (y : Int) : ∃ r : List UInt8, r.length ≤ 300 ∧ ∀ m x k, exP' φl φs φo (stb "_law_part" 6) (kmS m x y) k = k (.ret (.bytes r)) (kmS m x y) := by
  have a := fm_lo (y.fdiv 3) (k := 40) (by decide)
  have b := fm_hi (y.fdiv 3) (k := 40) (by decide)
  have h1 : ∀ i ∈ (List.range ((y.fdiv 3).fmod 40).toNat).map (fun i => (y + 5 * Int.ofNat i).fmod 256), 0 ≤ i ∧ i < 256 := by
    intro i hi
    obtain ⟨j, _, rfl⟩ := List.mem_map.mp hi
    exact ⟨fm_lo _ (by decide), fm_hi _ (by decide)⟩
  have hl : (((List.range ((y.fdiv 3).fmod 40).toNat).map (fun i => (y + 5 * Int.ofNat i).fmod 256)).map u8).length ≤ 40 := by simp; omega
  refine ⟨_, Nat.le_trans (laidB_len (((List.range ((y.fdiv 3).fmod 40).toNat).map (fun i => (y + 5 * Int.ofNat i).fmod 256)).map u8)) (by omega), fun m x k => ?_⟩
  rw [lp6, rngT_ok (fun i => (y + 5 * Int.ofNat i).fmod 256) a (by omega) fun i hi kk => ?_, bytesF_ok h1 (by simp; omega), Z.laid _ _ (by omega)]
  show gate (small 5 && small (Int.ofNat i)) _ = _
  rw [gateT (by rw [show small (Int.ofNat i) = true from decide_eq_true (by show (i : Int).natAbs < _; omega)]; rfl)]
  exact mod_ok _ _ _ rfl
theorem lpr3 (y : Int) : ∃ r : List UInt8, r.length ≤ 300 ∧ ∀ m k, ∃ σ', exP' φl φs φo (stb "_law_part" 3) (kmS m 3 y) k = k (.ret (.bytes r)) σ' := by
  have a := fm_lo y (k := 7) (by decide)
  have b := fm_hi y (k := 7) (by decide)
  obtain ⟨p, hp, ep⟩ := pick3_ok (a := 76) (b := 77) (c := 78) ((y.fdiv 7).fmod 3) (fm_lo _ (by decide)) (fm_hi _ (by decide))
  obtain ⟨q, hq, eq⟩ := pick3_ok (a := 0) (b := 1) (c := 3) ((y.fdiv 7).fmod 3) (fm_lo _ (by decide)) (fm_hi _ (by decide))
  have h1 : ∀ i ∈ (List.range (y.fmod 7).toNat).map (fun i => (y + Int.ofNat i).fmod 256), 0 ≤ i ∧ i < 256 := by
    intro i hi
    obtain ⟨j, _, rfl⟩ := List.mem_map.mp hi
    exact ⟨fm_lo _ (by decide), fm_hi _ (by decide)⟩
  generalize hoc : ((List.range (y.fmod 7).toNat).map (fun i => (y + Int.ofNat i).fmod 256)).map u8 = oc
  have hol : oc.length ≤ 7 := by rw [← hoc]; simp; omega
  refine ⟨([p, (oc.length : Int)] ++ List.replicate q.toNat 0).map u8 ++ oc, ?_, fun m k => ⟨putV (kmS m 3 y) (nm "octets") (.val (.bytes oc)), ?_⟩⟩
  · simp; omega
  rw [lp3, decide_eq_true rfl, cond_true, rngT_ok (fun i => (y + Int.ofNat i).fmod 256) a (by omega) fun i _ kk => mod_ok _ _ _ rfl, bytesF_ok h1 (by simp; omega), hoc, ep]
  show gate (lenOk oc.length) _ = _
  rw [gateT (lenT (by omega))]
  dsimp only
  rw [eq]
  show gate (decide (0 ≤ q) && decide (q ≤ 1000) && lenOk (1 * q.toNat)) _ = _
  rw [gateT (by rw [decide_eq_true (show (0 : Int) ≤ q by omega), decide_eq_true (show q ≤ 1000 by omega), lenT (by omega)]; rfl), listMul0]
  show gate (lenOk ([PV.int p, .int (oc.length : Nat)].length + _)) _ = _
  rw [gateT (lenT (by simp; omega)), show [PV.int p, .int ((oc.length : Nat) : Int)] ++ (List.replicate q.toNat (0 : Int)).map .int = ([p, (oc.length : Int)] ++ List.replicate q.toNat 0).map .int by simp]
  dsimp only
  rw [bytesF_ok]
  · exact addB_ok (by simp; omega)
  · intro i hi
    simp at hi
    rcases hi with rfl | rfl | ⟨_, rfl⟩ <;> omega
  · simp; omega
theorem part_k (Z : PartF φl φs φo) (m : Int) : ∃ r : List UInt8, r.length ≤ 300 ∧ runF (LpT φl φs φo) "_law_part" [.int m] = some (.bytes r) := by
  have start : runF (LpT φl φs φo) "_law_part" [.int m] = exList (exP' φl φs φo) [stb "_law_part" 1, stb "_law_part" 2, stb "_law_part" 3, stb "_law_part" 4, stb "_law_part" 5, stb "_law_part" 6] (kmS m (m.fmod 8) (m.fdiv 8)) kEnd := by
    show exList (exP' φl φs φo) (bodyOf "_law_part") (gN m []) kEnd = _
    rw [lp_body]
    exact exl_next fun k => lp0 ..
  have k0 := fm_lo m (k := 8) (by decide)
  have k1 := fm_hi m (k := 8) (by decide)
  rw [start]
  generalize m.fdiv 8 = y
  generalize m.fmod 8 = x at *
  clear start
  by_cases c1 : x < 2
  · obtain ⟨r, hr, e⟩ := lpr1 (φl := φl) (φs := φs) (φo := φo) y
    exact ⟨r, hr, exl_ret (e x c1 m)⟩
  by_cases c2 : x = 2
  · obtain ⟨r, hr, e⟩ := lpr2 Z y
    subst c2
    exact ⟨r, hr, (exl_next (lpn1 _ _ _ c1)).trans (exl_ret (e m))⟩
  by_cases c3 : x = 3
  · obtain ⟨r, hr, e⟩ := lpr3 (φl := φl) (φs := φs) (φo := φo) y
    subst c3
    refine ⟨r, hr, (exl_next (lpn1 _ _ _ c1)).trans ((exl_next (lpn2 _ _ _ c2)).trans ?_)⟩
    obtain ⟨σ', e'⟩ := e m (fun f σ' => match f with
      | .next => exList (exP' φl φs φo) [stb "_law_part" 4, stb "_law_part" 5, stb "_law_part" 6] σ' kEnd
      | .brk => kEnd .brk σ'
      | .cnt => kEnd .cnt σ'
      | .ret p => kEnd (.ret p) σ')
    exact e'
  by_cases c4 : x = 4
  · obtain ⟨r, hr, e⟩ := lpr4 Z y
    subst c4
    exact ⟨r, hr, (exl_next (lpn1 _ _ _ c1)).trans ((exl_next (lpn2 _ _ _ c2)).trans ((exl_next (lpn3 _ _ _ c3)).trans (exl_ret (e m))))⟩
  by_cases c5 : x = 5
  · obtain ⟨r, hr, e⟩ := lpr5 Z y
    subst c5
    exact ⟨r, hr, (exl_next (lpn1 _ _ _ c1)).trans ((exl_next (lpn2 _ _ _ c2)).trans ((exl_next (lpn3 _ _ _ c3)).trans ((exl_next (lpn4 _ _ _ c4)).trans (exl_ret (e m)))))⟩
  · obtain ⟨r, hr, e⟩ := lpr6 Z y
    exact ⟨r, hr, (exl_next (lpn1 _ _ _ c1)).trans ((exl_next (lpn2 _ _ _ c2)).trans ((exl_next (lpn3 _ _ _ c3)).trans ((exl_next (lpn4 _ _ _ c4)).trans ((exl_next (lpn5 _ _ _ c5)).trans (exl_ret (e m x))))))⟩
end Mine
end

/-! Lw5 -/
section
open PySem
set_option maxRecDepth 100000
namespace Mine
def LcT (φl φo : Fun) : Tbl := tb [(nm "_law_laid", φl), (nm "_law_octets", φo)]
abbrev exC (φl φo : Fun) : Stmt → Vars → KS → Option PV := exN (LcT φl φo) (scOf "_law_command") 16 4000 8
section
variable (φl φo : Fun) (m x y : Int) (k : KS)
theorem lc0 : exC φl φo (stb "_law_command" 0) (gN m []) k = k .next (kmS m (m.fmod 4) (m.fdiv 4)) := by kernel_rfl
theorem lc1 : exC φl φo (stb "_law_command" 1) (kmS m x y) k = bif decide (x = 0) then (φo [.int (y.fmod 70300 - 300)] [] fun p => φl [p] [] fun r => k (.ret (.tup [.int (y.fmod 70300 - 300), r])) (putV (kmS m x y) (nm "value") (.val (.int (y.fmod 70300 - 300))))) else k .next (kmS m x y) := by kernel_rfl
def nmT (w : Int) (k : PV → Option PV) : Option PV := bif (opName.lookup w).isSome then itemK (.dci opName) (.int w) k else gate (small w) (gate (lenOk ((nm "UNKNOWN_OP_CODE_").length + (Str.ofString (toString w)).length)) (k (.str (nm "UNKNOWN_OP_CODE_" ++ Str.ofString (toString w)))))
def lcN (m x y w : Int) (k : KS) : Option PV := nmT w fun p => b1T w fun r => k (.ret (.tup [p, .bytes r])) (putV (putV (kmS m x y) (nm "word") (.val (.int w))) (nm "named") (.val p))
theorem lc2 : exC φl φo (stb "_law_command" 2) (kmS m x y) k = bif decide (x = 1) then (bif decide (0 < y.fmod 256) then (bif decide (y.fmod 256 ≤ 75) then lcN m x y (y.fmod 256 + 100) k else lcN m x y (y.fmod 256) k) else lcN m x y (y.fmod 256) k) else k .next (kmS m x y) := by kernel_rfl
theorem lc3 : exC φl φo (stb "_law_command" 3) (kmS m x y) k = rngT (1 + y.fmod 90) (fun x kk => binK .Add (.int y) x fun a => binK .Mod a (.int 256) kk) fun l => bytesF [l] [] fun oc => k .next (putV (kmS m x y) (nm "octets") (.val oc)) := by kernel_rfl
theorem lc4 (o : List UInt8) : exC φl φo (stb "_law_command" 4) (putV (kmS m x y) (nm "octets") (.val (.bytes o))) k = bif decide (x = 2) then (φl [.bytes o] [] fun r => k (.ret (.tup [.bytes o, r])) (putV (kmS m x y) (nm "octets") (.val (.bytes o)))) else
   (hexT o fun h => φl [.bytes o] [] fun r => k (.ret (.tup [.str h, r])) (putV (kmS m x y) (nm "octets") (.val (.bytes o)))) := by kernel_rfl
theorem lc_body : bodyOf "_law_command" = [stb "_law_command" 0, stb "_law_command" 1, stb "_law_command" 2, stb "_law_command" 3, stb "_law_command" 4] := by with_unfolding_all rfl
end
end Mine
end

/-! Nm1 -/
section
open PySem
set_option maxRecDepth 100000
namespace Mine
def unkN (w : Nat) : Str := nm "UNKNOWN_OP_CODE_" ++ Str.ofString (toString (w : Int))
def nmP (w : Nat) : Str := match opName.lookup (w : Int) with
  | some x => x
  | none => unkN w
theorem op_keys : opName.map (·.1) = (0 :: List.range' 76 111).map fun n : Nat => (n : Int) := by kernel_rfl
theorem op_tab1 : ((opName.take 56).all fun p => decide (ssP p.2 = some [p.1.toNat.toUInt8])) = true := by kernel_rfl
theorem op_tab2 : ((opName.drop 56).all fun p => decide (ssP p.2 = some [p.1.toNat.toUInt8])) = true := by kernel_rfl
theorem unk_tab1 : ((List.range' 187 35).all fun w => decide (ssP (unkN w) = some [w.toUInt8])) = true := by kernel_rfl
theorem unk_tab2 : ((List.range' 222 34).all fun w => decide (ssP (unkN w) = some [w.toUInt8])) = true := by kernel_rfl
theorem opl_mem : ∀ {l : List (Int × Str)} {k : Int} {x : Str}, l.lookup k = some x → (k, x) ∈ l
  | [], _, _, h => by cases h
  | (k', y) :: l, k, x, h => by
    rw [List.lookup_cons] at h
    by_cases c : k = k'
    · subst c
      rw [beq_self_eq_true] at h
      cases h
      exact .head _
    · rw [beq_false_of_ne c] at h
      exact .tail _ (opl_mem h)
theorem opl_none : ∀ {l : List (Int × Str)} {k : Int}, l.lookup k = none → k ∉ l.map (·.1)
  | [], _, _ => (fun h => nomatch h)
  | (k', y) :: l, k, h => by
    rw [List.lookup_cons] at h
    by_cases c : k = k'
    · subst c
      rw [beq_self_eq_true] at h
      cases h
    · rw [beq_false_of_ne c] at h
      intro q
      rw [List.map_cons, List.mem_cons] at q
      exact q.elim c (opl_none h)
/-- a word's name stands for the word -/
theorem nm_fact {w : Nat} (h : w < 256) (c : w = 0 ∨ 75 < w) : ssP (nmP w) = some [w.toUInt8] := by
  unfold nmP
  cases hl : opName.lookup (w : Int) with
  | some x =>
    have m := opl_mem hl
    rw [← List.take_append_drop 56 opName] at m
    rcases List.mem_append.mp m with q | q
    · exact of_decide_eq_true (List.all_eq_true.mp op_tab1 _ q)
    · exact of_decide_eq_true (List.all_eq_true.mp op_tab2 _ q)
  | none =>
    have m := opl_none hl
    rw [op_keys] at m
    have n : w ∉ 0 :: List.range' 76 111 := fun q => m (List.mem_map.mpr ⟨w, q, rfl⟩)
    rw [List.mem_cons, List.mem_range'_1] at n
    by_cases d : w < 222
    · exact of_decide_eq_true (List.all_eq_true.mp unk_tab1 w (List.mem_range'_1.mpr (by omega)))
    · exact of_decide_eq_true (List.all_eq_true.mp unk_tab2 w (List.mem_range'_1.mpr (by omega)))
theorem ascii_of_ss {x : Str} {b : List UInt8} (h : ssP x = some b) : asciiB x = true := by
  unfold ssP at h
  cases q : asciiB x with
  | true => rfl
  | false => rw [q, Bool.false_and] at h; cases h
end Mine
end

/-! Nm2 -/
section
open PySem
set_option maxRecDepth 100000
namespace Mine
def gL (f : Nat → Nat) : List UInt8 → List Nat
  | [] => []
  | c :: l => f (c.toNat / 16) :: f (c.toNat % 16) :: gL f l
theorem gL_hexL : ∀ c, hexL c = gL hexD c
  | [] => rfl
  | c :: l => by unfold hexL gL; rw [gL_hexL l]
theorem gL_hexUL : ∀ c, hexUL c = gL hexW c
  | [] => rfl
  | c :: l => by unfold hexUL gL; rw [gL_hexUL l]
theorem gL_len (f : Nat → Nat) : ∀ c, (gL f c).length = 2 * c.length
  | [] => rfl
  | c :: l => by unfold gL; rw [List.length_cons, List.length_cons, List.length_cons, gL_len f l]; omega
def isHx (c : Nat) : Bool := !blankC c && !wsS.cps.contains c && decide (c < 128) && decide (c ≠ 79) && decide (c ≠ 85)
structure Digit (f : Nat → Nat) : Prop where
  val : ∀ n, n < 16 → hexV (f n) = some n
  ok : ∀ n, n < 16 → isHx (f n) = true
theorem dig_D : Digit hexD := by
  have h : ∀ n : Fin 16, hexV (hexD n.val) = some n.val ∧ isHx (hexD n.val) = true := by decide +kernel
  exact ⟨fun n hn => (h ⟨n, hn⟩).1, fun n hn => (h ⟨n, hn⟩).2⟩
theorem dig_W : Digit hexW := by
  have h : ∀ n : Fin 16, hexV (hexW n.val) = some n.val ∧ isHx (hexW n.val) = true := by decide +kernel
  exact ⟨fun n hn => (h ⟨n, hn⟩).1, fun n hn => (h ⟨n, hn⟩).2⟩
variable {f : Nat → Nat}
theorem gL_all (D : Digit f) : ∀ c : List UInt8, (gL f c).all isHx = true
  | [] => rfl
  | c :: l => by
    have h := c.toNat_lt
    unfold gL
    rw [List.all_cons, List.all_cons, D.ok _ (by omega), D.ok _ (by omega), gL_all D l]; rfl
theorem isHx_blank {c : Nat} (h : isHx c = true) : blankC c = false := by
  unfold isHx at h
  simp only [Bool.and_eq_true, Bool.not_eq_true'] at h
  exact h.1.1.1.1
theorem hxL_gL (D : Digit f) : ∀ (c : List UInt8) (m : Nat) (o : List UInt8), c.length ≤ m → hxL m (gL f c) o = some (o ++ c)
  | [], m, o, _ => by cases m <;> simp [gL, hxL]
  | c :: l, m, o, h => by
    have hc := c.toNat_lt
    obtain ⟨m, rfl⟩ : ∃ j, m = j + 1 := ⟨m - 1, by rw [List.length_cons] at h; omega⟩
    unfold gL hxL
    rw [isHx_blank (D.ok _ (by omega)), D.val _ (by omega)]
    dsimp only [cond_false]
    rw [D.val _ (by omega)]
    dsimp only
    rw [hxL_gL D l m _ (by rw [List.length_cons] at h; omega), show c.toNat / 16 * 16 + c.toNat % 16 = c.toNat by omega]
    simp
theorem byte_heads : (opByte.all fun e => decide (e.1.cps.toList.head? = some 79)) = true := by kernel_rfl
theorem unk_heads : (opUnk.all fun e => decide (e.1.cps.toList.head? = some 85)) = true := by kernel_rfl
theorem look_none {n : Nat} {x : Str} (hx : x.cps.toList.head? ≠ some n) : ∀ (l : List (Str × List UInt8)), (l.all fun e => decide (e.1.cps.toList.head? = some n)) = true → l.lookup x = none
  | [], _ => rfl
  | e :: l, h => by
    rw [List.all_cons] at h
    obtain ⟨h1, h2⟩ := and_split h
    have h1 := of_decide_eq_true h1
    have ne : (x == e.1) = false := by
      cases q : x == e.1 with
      | false => rfl
      | true => rw [eq_of_beq q] at hx; exact absurd h1 hx
    obtain ⟨k, v⟩ := e
    rw [List.lookup, ne]
    exact look_none hx l h2
theorem strip_keep {l : List Nat} (h : l.all isHx = true) : stripS wsS ⟨l.toArray⟩ = ⟨l.toArray⟩ := by
  have no : ∀ l : List Nat, l.all isHx = true → l.takeWhile (fun a => wsS.cps.contains a) = [] := by
    intro l h
    cases l with
    | nil => rfl
    | cons c l =>
      rw [List.all_cons] at h
      have h1 := (and_split h).1
      unfold isHx at h1
      simp only [Bool.and_eq_true, Bool.not_eq_true'] at h1
      rw [List.takeWhile_cons, h1.1.1.1.2]; rfl
  have e1 : stripLo wsS.cps.contains true ⟨l.toArray⟩ = 0 := by
    show (l.takeWhile (fun a => wsS.cps.contains a)).length = 0
    rw [no l h]; rfl
  have e2 : stripHi wsS.cps.contains true ⟨l.toArray⟩ 0 = l.length := by
    show l.length - (l.reverse.takeWhile (fun a => wsS.cps.contains a)).length = _
    rw [no l.reverse (by rw [List.all_reverse]; exact h)]; rfl
  have e3 : PySem.stripSame wsS.cps.contains true true ⟨l.toArray⟩ = true := by
    unfold PySem.stripSame
    rw [e1, e2]
    show (l.length == l.length) = true
    simp
  show (bif PySem.stripSame wsS.cps.contains true true ⟨l.toArray⟩ then (⟨l.toArray⟩ : Str) else _) = _
  rw [e3]; rfl
theorem ss_gL (D : Digit f) {c : List UInt8} (hne : c ≠ []) (hl : c.length ≤ 60000) : ssP ⟨(gL f c).toArray⟩ = some (laidB c) := by
  have ha := gL_all D c
  have len := gL_len f c
  have hd : ∃ n, (gL f c).head? = some n ∧ isHx n = true := by
    cases c with
    | nil => exact absurd rfl hne
    | cons c l => exact ⟨_, rfl, D.ok _ (by have := c.toNat_lt; omega)⟩
  obtain ⟨n, hn, hhx⟩ := hd
  unfold isHx at hhx
  simp only [Bool.and_eq_true, decide_eq_true_eq] at hhx
  have asc : asciiB ⟨(gL f c).toArray⟩ = true := by
    show ((gL f c).toArray.all fun c => decide (c < 128)) = true
    rw [← Array.all_toList]
    refine List.all_eq_true.mpr fun y hy => ?_
    have := List.all_eq_true.mp ha y hy
    unfold isHx at this
    simp only [Bool.and_eq_true] at this
    exact this.1.1.2
  have hx : hxS ⟨(gL f c).toArray⟩ = some c := by
    show (bif (gL f c).toArray.any (fun c => decide (128 ≤ c)) then none else hxL (gL f c).toArray.size (gL f c).toArray.toList []) = _
    rw [show (gL f c).toArray.any (fun c => decide (128 ≤ c)) = false from ?_, List.size_toArray]
    · show hxL _ (gL f c) [] = _
      rw [hxL_gL D c _ [] (by omega)]; rfl
    · rw [← Array.any_toList]
      rw [List.any_eq_false]
      intro y hy
      have := List.all_eq_true.mp ha y hy
      unfold isHx at this
      simp only [Bool.and_eq_true, decide_eq_true_eq] at this
      simp
      omega
  unfold ssP
  rw [strip_keep ha, asc, lenT (by show (gL f c).toArray.size ≤ _; rw [List.size_toArray]; omega)]
  rw [Bool.and_self, cond_true]
  rw [look_none (n := 79) (by show (gL f c).head? ≠ _; rw [hn]; intro z; injection z with z; exact hhx.1.2 z) opByte byte_heads, look_none (n := 85) (by show (gL f c).head? ≠ _; rw [hn]; intro z; injection z with z; exact hhx.2 z) opUnk unk_heads, hx]
  show (bif lenOk c.length && decide (c.length < 65536) then some (laidB c) else none) = _
  rw [lenT (by omega), decide_eq_true (by omega)]; rfl
theorem ss_hexS {c : List UInt8} (hne : c ≠ []) (hl : c.length ≤ 60000) : ssP (hexS c) = some (laidB c) := by
  unfold hexS; rw [gL_hexL]; exact ss_gL dig_D hne hl
theorem ss_upS {c : List UInt8} (hne : c ≠ []) (hl : c.length ≤ 60000) : ssP (upS (hexS c)) = some (laidB c) := by
  rw [upS_hexS, gL_hexUL]; exact ss_gL dig_W hne hl
end Mine
end

/-! Lw6 -/
section
open PySem
set_option maxRecDepth 100000
namespace Mine
structure CmdF (φl φo : Fun) : Prop where
  laid : ∀ b k, b.length < 65536 → φl [.bytes b] [] k = k (.bytes (laidB b))
  oct : ∀ z, -9223372036854775808 ≤ z → z ≤ 9223372036854775807 → ∀ k, φo [.int z] [] k = k (.bytes (encP z))
variable {φl φo : Fun}
theorem nmT_ok {w : Nat} (h : w < 256) (k : PV → Option PV) : nmT (w : Int) k = k (.str (nmP w)) := by
  unfold nmT nmP
  cases q : opName.lookup (w : Int) with
  | some x =>
    show itemK (.dci opName) (.int w) k = _
    show (match opName.lookup (w : Int) with | some x => k (.str x) | none => none) = _
    rw [q]
  | none =>
    show gate _ _ = _
    have := toS_len w h
    rw [gateT (smallN (by omega)), gateT (lenT (by
      have e : (nm "UNKNOWN_OP_CODE_").length = 16 := by decide +kernel
      omega))]
    rfl
theorem cmdP_str (x : Str) : cmdP (.str x) = ssP x := rfl
theorem lcr0 (Z : CmdF φl φo) (y : Int) : ∃ one octs, cmdP one = some octs ∧ octs.length ≤ 100 ∧ ∀ m k, ∃ σ', exC φl φo (stb "_law_command" 1) (kmS m 0 y) k = k (.ret (.tup [one, .bytes octs])) σ' := by
  have a := fm_lo y (k := 70300) (by decide)
  have b := fm_hi y (k := 70300) (by decide)
  have hr : -9223372036854775808 ≤ y.fmod 70300 - 300 ∧ y.fmod 70300 - 300 ≤ 9223372036854775807 := ⟨by omega, by omega⟩
  have hl := encP_len hr.1 hr.2
  refine ⟨.int (y.fmod 70300 - 300), laidB (encP (y.fmod 70300 - 300)), if_pos hr, Nat.le_trans (laidB_len _) (by omega), fun m k => ⟨putV (kmS m 0 y) (nm "value") (.val (.int (y.fmod 70300 - 300))), ?_⟩⟩
  rw [lc1, decide_eq_true rfl, cond_true, Z.oct _ hr.1 hr.2, Z.laid _ _ (by omega)]
theorem lcr1 (y : Int) : ∃ one octs, cmdP one = some octs ∧ octs.length ≤ 100 ∧ ∀ m k, ∃ σ', exC φl φo (stb "_law_command" 2) (kmS m 1 y) k = k (.ret (.tup [one, .bytes octs])) σ' := by
  have a := fm_lo y (k := 256) (by decide)
  have b := fm_hi y (k := 256) (by decide)
  obtain ⟨w, hw⟩ : ∃ w : Nat, y.fmod 256 = (w : Int) := ⟨(y.fmod 256).toNat, by omega⟩
  have go : ∀ w : Nat, w < 256 → ∀ m k, ∃ σ', lcN m 1 y (w : Int) k = k (.ret (.tup [.str (nmP w), .bytes [w.toUInt8]])) σ' := by
    intro w h m k
    refine ⟨putV (putV (kmS m 1 y) (nm "word") (.val (.int (w : Int)))) (nm "named") (.val (.str (nmP w))), ?_⟩
    unfold lcN
    rw [nmT_ok h, b1T_ok (by omega) (by omega), u8_nat]
  by_cases c : 0 < w ∧ w ≤ 75
  · obtain ⟨v, hv⟩ : ∃ v : Nat, (w : Int) + 100 = (v : Int) ∧ 75 < v ∧ v < 256 := ⟨w + 100, by omega, by omega, by omega⟩
    refine ⟨.str (nmP v), [v.toUInt8], (cmdP_str _).trans (nm_fact hv.2.2 (.inr hv.2.1)), by simp, fun m k => ?_⟩
    obtain ⟨σ', e⟩ := go v hv.2.2 m k
    refine ⟨σ', ?_⟩
    rw [lc2, decide_eq_true rfl, cond_true, hw, decide_eq_true (by omega), cond_true, decide_eq_true (by omega), cond_true, hv.1]
    exact e
  · refine ⟨.str (nmP w), [w.toUInt8], (cmdP_str _).trans (nm_fact (by omega) (by omega)), by simp, fun m k => ?_⟩
    obtain ⟨σ', e⟩ := go w (by omega) m k
    refine ⟨σ', ?_⟩
    rw [lc2, decide_eq_true rfl, cond_true, hw]
    by_cases c2 : 0 < w
    · rw [decide_eq_true (by omega), cond_true, decide_eq_false (by omega), cond_false]; exact e
    · rw [decide_eq_false (by omega), cond_false]; exact e
theorem lcr3 (y : Int) : ∃ o : List UInt8, o ≠ [] ∧ o.length ≤ 90 ∧ ∀ m x k, exC φl φo (stb "_law_command" 3) (kmS m x y) k = k .next (putV (kmS m x y) (nm "octets") (.val (.bytes o))) := by
  have a := fm_lo y (k := 90) (by decide)
  have b := fm_hi y (k := 90) (by decide)
  have h1 : ∀ i ∈ (List.range (1 + y.fmod 90).toNat).map (fun i => (y + Int.ofNat i).fmod 256), 0 ≤ i ∧ i < 256 := by
    intro i hi
    obtain ⟨j, _, rfl⟩ := List.mem_map.mp hi
    exact ⟨fm_lo _ (by decide), fm_hi _ (by decide)⟩
  have hl : (((List.range (1 + y.fmod 90).toNat).map (fun i => (y + Int.ofNat i).fmod 256)).map u8).length = (1 + y.fmod 90).toNat := by simp
  refine ⟨((List.range (1 + y.fmod 90).toNat).map (fun i => (y + Int.ofNat i).fmod 256)).map u8, fun z => ?_, ?_, fun m x k => ?_⟩
  rotate_right
  · rw [lc3, rngT_ok (fun i => (y + Int.ofNat i).fmod 256) (by omega) (by omega) fun i _ kk => mod_ok _ _ _ rfl, bytesF_ok h1 (by simp; omega)]
  · have := congrArg List.length z
    rw [hl] at this
    simp at this
    omega
  · rw [hl]; omega
theorem cmd_k (Z : CmdF φl φo) (m : Int) : ∃ one octs, cmdP one = some octs ∧ octs.length ≤ 100 ∧ runF (LcT φl φo) "_law_command" [.int m] = some (.tup [one, .bytes octs]) := by
  have start : runF (LcT φl φo) "_law_command" [.int m] = exList (exC φl φo) [stb "_law_command" 1, stb "_law_command" 2, stb "_law_command" 3, stb "_law_command" 4] (kmS m (m.fmod 4) (m.fdiv 4)) kEnd := by
    show exList (exC φl φo) (bodyOf "_law_command") (gN m []) kEnd = _
    rw [lc_body]
    exact exl_next fun k => lc0 ..
  have k0 := fm_lo m (k := 4) (by decide)
  have k1 := fm_hi m (k := 4) (by decide)
  rw [start]
  generalize m.fdiv 4 = y
  generalize m.fmod 4 = x at *
  clear start
  by_cases c1 : x = 0
  · obtain ⟨one, octs, h1, h2, e⟩ := lcr0 Z y
    subst c1
    obtain ⟨σ', e'⟩ := e m (fun f σ' => match f with
      | .next => exList (exC φl φo) [stb "_law_command" 2, stb "_law_command" 3, stb "_law_command" 4] σ' kEnd
      | .brk => kEnd .brk σ'
      | .cnt => kEnd .cnt σ'
      | .ret p => kEnd (.ret p) σ')
    exact ⟨one, octs, h1, h2, e'⟩
  have n1 : ∀ k, exC φl φo (stb "_law_command" 1) (kmS m x y) k = k .next (kmS m x y) := fun k => by rw [lc1, decide_eq_false c1, cond_false]
  by_cases c2 : x = 1
  · obtain ⟨one, octs, h1, h2, e⟩ := lcr1 (φl := φl) (φo := φo) y
    subst c2
    obtain ⟨σ', e'⟩ := e m (fun f σ' => match f with
      | .next => exList (exC φl φo) [stb "_law_command" 3, stb "_law_command" 4] σ' kEnd
      | .brk => kEnd .brk σ'
      | .cnt => kEnd .cnt σ'
      | .ret p => kEnd (.ret p) σ')
    exact ⟨one, octs, h1, h2, (exl_next n1).trans e'⟩
  have n2 : ∀ k, exC φl φo (stb "_law_command" 2) (kmS m x y) k = k .next (kmS m x y) := fun k => by rw [lc2, decide_eq_false c2, cond_false]
  obtain ⟨o, ho, hl, e3⟩ := lcr3 (φl := φl) (φo := φo) y
  have hL := Nat.le_trans (laidB_len o) (show o.length + 3 ≤ 100 by omega)
  by_cases c3 : x = 2
  · refine ⟨.bytes o, laidB o, if_pos (by omega), hL, (exl_next n1).trans ((exl_next n2).trans ((exl_next (e3 m x)).trans (exl_ret (σ' := putV (kmS m x y) (nm "octets") (.val (.bytes o))) fun k => ?_)))⟩
    rw [lc4, decide_eq_true c3, cond_true, Z.laid _ _ (by omega)]
  · refine ⟨.str (hexS o), laidB o, ss_hexS ho (by omega), hL, (exl_next n1).trans ((exl_next n2).trans ((exl_next (e3 m x)).trans (exl_ret (σ' := putV (kmS m x y) (nm "octets") (.val (.bytes o))) fun k => ?_)))⟩
    rw [lc4, decide_eq_false c3, cond_false]
    unfold hexT
    rw [gateT (lenT (by omega))]
    exact Z.laid _ _ (by omega)
end Mine
end

/-! Rt1 -/
section
open PySem
set_option maxRecDepth 100000
namespace Mine
def encI (w : Nat) : Option (List UInt8) → List UInt8
  | some o => laidB o
  | none => [w.toUInt8]
theorem getD_app (pre l : List UInt8) (x : UInt8) : (pre ++ x :: l).getD pre.length 0 = x := by
  rw [List.getD_eq_getElem?_getD, List.getElem?_append_right (Nat.le_refl _), Nat.sub_self]; rfl
theorem sl_app (pre o rest : List UInt8) : sl (pre ++ (o ++ rest)) pre.length o.length = o := by
  unfold sl
  rw [← List.append_assoc, show pre.length + o.length = (pre ++ o).length by rw [List.length_append], List.take_left, List.drop_left]
theorem u8n {n : Nat} (h : n < 256) : (n.toUInt8).toNat = n := by
  show n % 256 = n
  omega
theorem enc_some (pre o rest : List UInt8) (hne : o ≠ []) (hl : o.length < 65536) : ∃ w, opAt (pre ++ (laidB o ++ rest)) pre.length = some (w, some o, pre.length + (laidB o).length) := by
  have hpos : 0 < o.length := List.length_pos_iff.mpr hne
  by_cases c1 : o.length < 76
  · refine ⟨o.length, ?_⟩
    have e : laidB o = o.length.toUInt8 :: o := if_pos c1
    rw [e, List.cons_append]
    unfold opAt
    rw [getD_app, u8n (by omega)]
    dsimp only
    rw [if_neg (by omega), if_neg (by omega), if_pos (by simp only [List.length_append, List.length_cons]; omega)]
    have := sl_app (pre ++ [o.length.toUInt8]) o rest
    rw [List.append_assoc, List.length_append] at this
    simp only [List.length_cons, List.length_nil, List.cons_append, List.nil_append] at this
    rw [this, List.length_cons]
    congr 3; omega
  · by_cases c2 : o.length < 256
    · refine ⟨76, ?_⟩
      have e : laidB o = 76 :: o.length.toUInt8 :: o := by unfold laidB; rw [if_neg c1, if_pos c2]
      rw [e, List.cons_append, List.cons_append]
      unfold opAt
      rw [getD_app, show (76 : UInt8).toNat = 76 from rfl]
      dsimp only
      have h1 := sl_app (pre ++ [76]) [o.length.toUInt8] (o ++ rest)
      rw [List.append_assoc, List.length_append] at h1
      simp only [List.length_cons, List.length_nil, List.cons_append, List.nil_append, Nat.zero_add] at h1
      have h2 := sl_app (pre ++ [76, o.length.toUInt8]) o rest
      rw [List.append_assoc, List.length_append] at h2
      simp only [List.length_cons, List.length_nil, List.cons_append, List.nil_append, Nat.zero_add] at h2
      rw [if_neg (by omega), if_pos (by omega), show 2 ^ (76 - 76) = 1 from rfl, if_neg (by simp only [List.length_append, List.length_cons]; omega), h1]
      have hv : leV [o.length.toUInt8] = o.length := by simp only [leV]; rw [u8n (by omega)]; omega
      rw [hv, if_pos (by simp only [List.length_append, List.length_cons]; omega)]
      rw [show pre.length + 1 + 1 = pre.length + 2 from rfl, h2, List.length_cons, List.length_cons]
      congr 3; omega
    · refine ⟨77, ?_⟩
      have e : laidB o = 77 :: (o.length % 256).toUInt8 :: (o.length / 256).toUInt8 :: o := by unfold laidB; rw [if_neg c1, if_neg c2]
      rw [e, List.cons_append, List.cons_append, List.cons_append]
      unfold opAt
      rw [getD_app, show (77 : UInt8).toNat = 77 from rfl]
      dsimp only
      have h1 := sl_app (pre ++ [77]) [(o.length % 256).toUInt8, (o.length / 256).toUInt8] (o ++ rest)
      rw [List.append_assoc, List.length_append] at h1
      simp only [List.length_cons, List.length_nil, List.cons_append, List.nil_append, Nat.zero_add] at h1
      have h2 := sl_app (pre ++ [77, (o.length % 256).toUInt8, (o.length / 256).toUInt8]) o rest
      rw [List.append_assoc, List.length_append] at h2
      simp only [List.length_cons, List.length_nil, List.cons_append, List.nil_append, Nat.zero_add] at h2
      rw [if_neg (by omega), if_pos (by omega), show 2 ^ (77 - 76) = 1 + 1 from rfl, if_neg (by simp only [List.length_append, List.length_cons]; omega), h1]
      have hv : leV [(o.length % 256).toUInt8, (o.length / 256).toUInt8] = o.length := by simp only [leV]; rw [u8n (by omega), u8n (by omega)]; omega
      rw [hv, if_pos (by simp only [List.length_append, List.length_cons]; omega)]
      rw [show pre.length + 1 + (1 + 1) = pre.length + (1 + 1 + 1) by omega, h2, List.length_cons, List.length_cons, List.length_cons]
      congr 3; omega
theorem enc_none (pre rest : List UInt8) {w : Nat} (hw : w < 256) (c : w = 0 ∨ 78 < w) : opAt (pre ++ (w.toUInt8 :: rest)) pre.length = some (w, none, pre.length + 1) := by
  unfold opAt
  rw [getD_app, u8n hw]
  dsimp only
  rw [if_pos c]
/-- an item as a script's words are -/
def GoodI (x : Item) : Prop := x.1 < 256 ∧ match x.2.1 with
  | none => x.1 = 0 ∨ 78 < x.1
  | some o => o.length < 4000
def nameI (x : Item) : PV := .str (cmdS x.1 x.2.1)
def encL (l : List Item) : List UInt8 := (l.map fun x => encI x.1 x.2.1).flatten
theorem cmd_zero : cmdS 0 none = nm "OP_0" := by kernel_rfl
theorem empty_app (x : Str) : Str.empty ++ x = x := by
  show (⟨#[] ++ x.cps⟩ : Str) = x
  rw [Array.empty_append]
theorem opS_nmP (w : Nat) : opS w = nmP w := by
  unfold opS nmP unkS
  rw [empty_app]
  all_goals (cases opName.lookup (w : Int) <;> rfl)
theorem upS_nil : (upS (hexS [])).length = 0 := by rw [upS_hexS_len]; rfl
theorem cmdS_some {w : Nat} {o : List UInt8} (h : o ≠ []) : cmdS w (some o) = upS (hexS o) := by
  have : 0 < o.length := List.length_pos_iff.mpr h
  exact if_pos (by rw [upS_hexS_len]; omega)
theorem cmdS_nil (w : Nat) : cmdS w (some []) = nm "OP_0" := by
  show (if (upS (hexS [])).length ≠ 0 then upS (hexS []) else nm "OP_0") = _
  rw [upS_nil, if_neg (by simp)]
theorem enc_pos (x : Item) : 0 < (encI x.1 x.2.1).length := by
  obtain ⟨w, c, _⟩ := x
  cases c with
  | none => exact Nat.zero_lt_one
  | some o =>
    show 0 < (laidB o).length
    unfold laidB
    split
    · simp
    · split <;> simp
theorem name_cmd {x : Item} (g : GoodI x) : cmdP (nameI x) = some (encI x.1 x.2.1) := by
  obtain ⟨w, c, i, e⟩ := x
  obtain ⟨g1, g2⟩ := g
  show ssP (cmdS w c) = some (encI w c)
  cases c with
  | none =>
    show ssP (opS w) = some [w.toUInt8]
    rw [opS_nmP]
    exact nm_fact g1 (g2.imp id fun h => by have h : 78 < w := h; omega)
  | some o =>
    have g2 : o.length < 4000 := g2
    by_cases h : o = []
    · subst h
      rw [cmdS_nil, ← cmd_zero]
      show ssP (opS 0) = some [0]
      rw [opS_nmP]
      exact nm_fact (by decide) (.inl rfl)
    · rw [cmdS_some h]
      exact ss_upS h (by omega)
theorem tail_enc : ∀ (l : List Item) (m : Nat) (pre : List UInt8), (∀ x ∈ l, GoodI x) → (encL l).length < m → tailS (pre ++ encL l) m pre.length = l.map nameI
  | [], m, pre, _, _ => tail_end (by show (pre ++ []).length ≤ _; rw [List.append_nil]; exact Nat.le_refl _)
  | x :: l, m, pre, g, h => by
    have hp := enc_pos x
    have e : encL (x :: l) = encI x.1 x.2.1 ++ encL l := rfl
    rw [e] at h ⊢
    rw [List.length_append] at h
    obtain ⟨m, rfl⟩ : ∃ j, m = j + 1 := ⟨m - 1, by omega⟩
    have lt : pre.length < (pre ++ (encI x.1 x.2.1 ++ encL l)).length := by rw [List.length_append, List.length_append]; omega
    have gx := g x (.head _)
    obtain ⟨w', c', ho, hc⟩ : ∃ w' c', opAt (pre ++ (encI x.1 x.2.1 ++ encL l)) pre.length = some (w', c', pre.length + (encI x.1 x.2.1).length) ∧ cmdS w' c' = cmdS x.1 x.2.1 := by
      obtain ⟨w, c, i, e⟩ := x
      obtain ⟨g1, g2⟩ := gx
      cases c with
      | none => exact ⟨w, none, enc_none pre _ g1 g2, rfl⟩
      | some o =>
        have g2 : o.length < 4000 := g2
        by_cases h : o = []
        · subst h
          exact ⟨0, none, enc_none pre _ (w := 0) (by decide) (.inl rfl), by rw [cmd_zero, cmdS_nil]⟩
        · obtain ⟨w', e⟩ := enc_some pre o (encL l) h (by omega)
          exact ⟨w', some o, e, by rw [cmdS_some h, cmdS_some h]⟩
    rw [tail_cons lt ho, hc, ← List.append_assoc, show pre.length + (encI x.1 x.2.1).length = (pre ++ encI x.1 x.2.1).length by rw [List.length_append], tail_enc l m _ (fun y hy => g y (.tail _ hy)) (by omega)]
    rfl
end Mine
end

/-! Rt2 -/
section
open PySem
set_option maxRecDepth 100000
namespace Mine
theorem walk_at (b : List UInt8) : ∀ (m i : Nat), ∀ x ∈ (walk b m i).1, x.2.2.1 < b.length ∧ opAt b x.2.2.1 = some (x.1, x.2.1, x.2.2.2)
  | 0, i, x, h => by cases h
  | m + 1, i, x, h => by
    unfold walk at h
    split at h
    · rename_i hi
      split at h
      · cases h
      · rename_i w c e hop
        cases h with
        | head => exact ⟨hi, hop⟩
        | tail _ h => exact walk_at b m e x h
    · cases h
theorem laidB_len1 {o : List UInt8} (h : o.length < 76) : (laidB o).length = 1 + o.length := by unfold laidB; rw [if_pos h, List.length_cons, Nat.add_comm]
theorem laidB_len2 {o : List UInt8} (h : o.length < 256) : (laidB o).length ≤ 2 + o.length := by
  by_cases c : o.length < 76
  · rw [laidB_len1 c]; omega
  · unfold laidB; rw [if_neg c, if_pos h, List.length_cons, List.length_cons]; omega
theorem leV1 (l : List UInt8) (h : l.length ≤ 1) : leV l < 256 := by
  match l, h with
  | [], _ => exact Nat.zero_lt_succ _
  | [x], _ => simp only [leV]; have := x.toNat_lt; omega
theorem sl_leN (b : List UInt8) (i m : Nat) : (sl b i m).length ≤ m := by unfold sl; rw [List.length_drop, List.length_take]; omega
theorem op_enc {b : List UInt8} {i w e : Nat} {c : Option (List UInt8)} (h : opAt b i = some (w, c, e)) : i + (encI w c).length ≤ e ∧ (∀ o, c = some o → o.length ≤ b.length) ∧ w < 256 := by
  have hw : (b.getD i 0).toNat < 256 := (b.getD i 0).toNat_lt
  unfold opAt at h
  dsimp only at h
  split at h
  · cases h; exact ⟨Nat.le_refl _, (fun o z => nomatch z), hw⟩
  · split at h
    · split at h
      · cases h
      · split at h
        · cases h
          rename_i q1 q2 q3 q4
          generalize hz : 2 ^ ((b.getD i 0).toNat - 76) = z at *
          have ho := sl_len (b := b) (i := i + 1 + z) (m := leV (sl b (i + 1) z)) q4
          refine ⟨?_, fun o z => by cases z; rw [ho]; omega, hw⟩
          show i + (laidB _).length ≤ _
          have h3 := laidB_len (sl b (i + 1 + z) (leV (sl b (i + 1) z)))
          have z1 : z = 1 ∨ 2 ≤ z := by
            rw [← hz]
            have : (b.getD i 0).toNat - 76 = 0 ∨ 1 ≤ (b.getD i 0).toNat - 76 := by omega
            rcases this with y | y
            · rw [y]; exact .inl rfl
            · have := Nat.pow_le_pow_right (n := 2) (by decide) y
              exact .inr (by omega)
          rcases z1 with y | y
          · subst y
            have h4 := leV1 (sl b (i + 1) 1) (sl_leN ..)
            have h5 := laidB_len2 (o := sl b (i + 1 + 1) (leV (sl b (i + 1) 1))) (by rw [ho]; exact h4)
            rw [ho] at h5
            omega
          · rw [ho] at h3; omega
        · cases h
    · split at h
      · cases h
        rename_i q1 q2 q3
        have ho := sl_len (b := b) (i := i + 1) (m := (b.getD i 0).toNat) q3
        refine ⟨?_, fun o z => by cases z; rw [ho]; omega, hw⟩
        show i + (laidB _).length ≤ _
        rw [laidB_len1 (by rw [ho]; omega), ho]; omega
      · cases h
theorem walk_good (b : List UInt8) (hb : b.length < 4000) (m i : Nat) : ∀ x ∈ (walk b m i).1, GoodI x := by
  intro x hx
  obtain ⟨h1, h2⟩ := walk_at b m i x hx
  obtain ⟨w, c, j, e⟩ := x
  obtain ⟨e1, e2, e3⟩ := op_enc h2
  refine ⟨e3, ?_⟩
  cases c with
  | none => exact (op_none h2).2.1
  | some o => exact Nat.lt_of_le_of_lt (e2 o rfl) hb
theorem walk_enc (b : List UInt8) : ∀ m i, i ≤ b.length → i + (encL (walk b m i).1).length ≤ b.length
  | 0, i, h => h
  | m + 1, i, h => by
    unfold walk
    split
    · rename_i hi
      split
      · exact h
      · rename_i w c e hop
        obtain ⟨b1, b2⟩ := opAt_bound hi hop
        have := walk_enc b m e b2
        have := (op_enc hop).1
        show i + (encI w c ++ encL (walk b m e).1).length ≤ _
        rw [List.length_append]; omega
    · exact h
theorem rdP_end {b : List UInt8} {i : Nat} (h : b.length ≤ i) : rdP b i = none := if_pos h
theorem walk_stop (b : List UInt8) : ∀ m i, b.length - i < m → rdP b (walk b m i).2.1 = none
  | 0, i, h => by omega
  | m + 1, i, h => by
    unfold walk
    split
    · rename_i hi
      split
      · rename_i ho
        rw [rd_op b i hi, ho]; rfl
      · rename_i w c e hop
        obtain ⟨b1, b2⟩ := opAt_bound hi hop
        exact walk_stop b m e (by omega)
    · exact rdP_end (show b.length ≤ i by omega)
theorem walk_rd (b : List UInt8) (m i : Nat) : ∀ x ∈ (walk b m i).1, rdP b x.2.2.1 = some (x.1, x.2.2.2) := by
  intro x hx
  obtain ⟨h1, h2⟩ := walk_at b m i x hx
  rw [rd_op b _ h1, h2]; rfl
def spanI (x : Item) : PV := .tup [.int (x.1 : Nat), .int (x.2.2.1 : Nat), .int (x.2.2.2 : Nat)]
theorem spans_walk (b : List UInt8) : ∀ m k i, b.length - i < m → b.length - i < k → (spans b m i).map (fun x => PV.tup (spV x)) = (walk b k i).1.map spanI
  | 0, k, i, h, _ => by omega
  | m + 1, 0, i, h, h2 => by omega
  | m + 1, k + 1, i, h, h2 => by
    unfold spans walk
    by_cases hi : i < b.length
    · rw [rd_op b i hi, if_pos hi]
      cases ho : opAt b i with
      | none => rfl
      | some x =>
        obtain ⟨w, c, e⟩ := x
        obtain ⟨b1, b2⟩ := opAt_bound hi ho
        show PV.tup (spV (w, i, e)) :: (spans b m e).map _ = _
        rw [spans_walk b m k e (by omega) (by omega)]
        rfl
    · rw [rdP_end (by omega), if_neg hi]; rfl
/-- the script, made anew, tells the same names -/
theorem round_trip (b : List UInt8) (hb : b.length < 4000) : (encL (allP b).1).length < 4000 ∧ tailS (encL (allP b).1) 4000 0 = (allP b).1.map nameI := by
  have h := walk_enc b 4000 0 (Nat.zero_le _)
  have h1 : (encL (allP b).1).length < 4000 := by unfold allP; omega
  exact ⟨h1, tail_enc (allP b).1 4000 [] (walk_good b hb 4000 0) h1⟩
theorem told_names (b : List UInt8) : tailS b 4000 0 = (allP b).1.map nameI ++ (if (allP b).2.2 then [.str (nm "[error]")] else []) := rfl
theorem names_cmd (b : List UInt8) (hb : b.length < 4000) : ((allP b).1.map nameI).map cmdP = ((allP b).1.map fun x => encI x.1 x.2.1).map some := by
  rw [List.map_map, List.map_map]
  exact List.map_congr_left fun x hx => name_cmd (walk_good b hb 4000 0 x hx)
end Mine
end

/-! Fa3 -/
section
open PySem PySem.W PyProof.Rows
set_option maxRecDepth 100000
namespace Mine
variable {prog : Program} {w : World} {h₁ : Heap} {n : Nat} {K : Frag} {T : Tbl} {φ ψ : Fun}
def Ent (prog : Program) (w : World) (h₁ : Heap) (n : Nat) (f : String) (φ : Fun) : Prop := nameOk (nm f) ∧ ∃ v, GlobIs h₁ (nm f) v ∧ FunOk prog w h₁ n v φ
theorem Ent.more {m : Nat} {f : String} (e : Ent prog w h₁ n f φ) (h : n ≤ m) : Ent prog w h₁ m f φ := let ⟨a, v, b, c⟩ := e; ⟨a, v, b, c.more h⟩
theorem entD (A : AllK w K) (G : Gnd K h₁) (f : String) (TO : TblOk prog w h₁ n T) {names : List Str} (hs : Simple (parOf f) names) (hf : f ∈ defN) (hsf : f ∈ simpN) (hn : nameOk (nm f)) (hsc : scOk (scOf f) names = true)
    (hφ : ∀ ps ks k r, φ ps ks k = some r → ks = [] ∧ ps.length = names.length ∧ ∃ p, run T (scOf f) (bodyOf f) (valsOf (names.zip ps)) = some p ∧ k p = some r) : Ent prog w h₁ (n + 1) f φ :=
  ⟨hn, _, globD A G hf, fun_of TO G.X G.lim (fnAtD A hf) (dflD A hsf).1 (dflD A hsf).2 hs hsc hφ⟩
/-- all that the program's plain functions answer -/
theorem tbl_of (B : TblOk prog w h₁ n base) {l : List (String × Fun)} (h : ∀ p ∈ l, Ent prog w h₁ n p.1 p.2) : TblOk prog w h₁ n (tb (l.map fun p => (nm p.1, p.2))) :=
  tb_ok B fun p hp => by
    obtain ⟨q, hq, rfl⟩ := List.mem_map.mp hp
    exact h q hq
theorem ii_tree (p : PV) (h : decide (knd p ∈ knds) = true) : runF base "is_integer" [p] = some (.bool (isIntP p)) := by
  cases p <;> first | exact absurd h (show ¬ decide ("" ∈ knds) = true by decide) | kernel_rfl
theorem oi_val (i : Int) (h0 : -1 ≤ i) (h1 : i ≤ 16) : oiT i = some (.str (bif decide (i = -1) then Str.ofString "OP_1NEGATE" else Str.ofString "OP_" ++ Str.ofString (toString i))) := by
  unfold oiT
  by_cases c : i = -1
  · rw [decide_eq_true c]; rfl
  · rw [decide_eq_false c, decide_eq_true (by omega), decide_eq_true h1]
    exact gateT (decide_eq_true (by omega))
def ldF : Fun := fun as ks k => match as, ks with
  | [.bytes b], [] => gate (decide (b.length < 65536)) (k (.bytes (laidB b)))
  | _, _ => none
def loF : Fun := fun as ks k => match as, ks with
  | [.int z], [] => gate (decide (z.natAbs < 256 ^ 9)) (k (.bytes (encP z)))
  | _, _ => none
def saF : Fun := fun as ks k => match as, ks with
  | [.bytes b, .bool v], [] => gate (decide (b.length < 4000)) (k (.str (toldS b (askP b v))))
  | _, _ => none
def piF : Fun := fun as ks k => match as, ks with
  | [.int i], [] => gate (decide (-9223372036854775808 ≤ i) && decide (i ≤ 9223372036854775807)) (k (.str (piP i)))
  | _, _ => none
/-- a function by its run -/
def runFn (T : Tbl) (f : String) : Fun := fun as ks k => match as, ks with
  | [a], [] => match runF T f [a] with
    | some p => k p
    | none => none
  | _, _ => none
theorem runFn_ok {T : Tbl} {f : String} {ps : List PV} {ks : List (Str × PV)} {k : PV → Option PV} {r : PV} (h : runFn T f ps ks k = some r) : ks = [] ∧ ∃ a p, ps = [a] ∧ runF T f [a] = some p ∧ k p = some r := by
  unfold runFn at h
  split at h
  · split at h
    · rename_i p hp; exact ⟨rfl, _, p, rfl, hp, h⟩
    · cases h
  · cases h
section
variable (A : AllK w K) (G : Gnd K h₁) (B : ∀ n, TblOk prog w h₁ n base)
include A G B
theorem e_is_octets : Ent prog w h₁ 1 "is_octets" ioF := entD A G _ (B 0) simple_is_octets (by decide) (by decide) (by unfold nameOk; decide) (by kernel_rfl) fun ps ks k r h => by
  unfold ioF at h
  split at h
  · exact ⟨rfl, rfl, _, io_lst _, h⟩
  · cases h
theorem e_is_integer : Ent prog w h₁ 1 "is_integer" iiF := entD A G _ (B 0) simple_is_integer (by decide) (by decide) (by unfold nameOk; decide) (by kernel_rfl) fun ps ks k r h => by
  unfold iiF at h
  split at h
  · obtain ⟨g, h⟩ := gate_some h
    exact ⟨rfl, rfl, _, ii_tree _ g, h⟩
  · cases h
theorem e_read_op_code : Ent prog w h₁ 1 "read_op_code" rdF := entD A G _ (B 0) simple_read_op_code (by decide) (by decide) (by unfold nameOk; decide) (by kernel_rfl) fun ps ks k r h => by
  unfold rdF at h
  split at h
  · rename_i b i
    obtain ⟨g, h⟩ := gate_some h
    unfold okBI at g
    obtain ⟨g, g3⟩ := and_split g
    obtain ⟨g1, g2⟩ := and_split g
    have g1 := of_decide_eq_true g1
    have g2 := of_decide_eq_true g2
    have g3 := of_decide_eq_true g3
    have e := rd_run b i.toNat g3 (by omega)
    rw [Int.toNat_of_nonneg g1] at e
    refine ⟨rfl, rfl, _, e, ?_⟩
    cases q : rdP b i.toNat with
    | none => rw [q] at h; exact h
    | some z => rw [q] at h; exact h
  · cases h
theorem e_law_laid : Ent prog w h₁ 1 "_law_laid" ldF := entD A G _ (B 0) simple_law_laid (by decide) (by decide) (by unfold nameOk; decide) (by kernel_rfl) fun ps ks k r h => by
  unfold ldF at h
  split at h
  · obtain ⟨g, h⟩ := gate_some h
    exact ⟨rfl, rfl, _, laid_run _ (of_decide_eq_true g), h⟩
  · cases h
theorem e_law_octets : Ent prog w h₁ 1 "_law_octets" loF := entD A G _ (B 0) simple_law_octets (by decide) (by decide) (by unfold nameOk; decide) (by kernel_rfl) fun ps ks k r h => by
  unfold loF at h
  split at h
  · obtain ⟨g, h⟩ := gate_some h
    exact ⟨rfl, rfl, _, lo_run _ (of_decide_eq_true g), h⟩
  · cases h
theorem e_law_read : Ent prog w h₁ 1 "_law_read" lrF := entD A G _ (B 0) simple_law_read (by decide) (by decide) (by unfold nameOk; decide) (by kernel_rfl) fun ps ks k r h => by
  unfold lrF at h
  split at h
  · rename_i b i
    obtain ⟨g, h⟩ := gate_some h
    obtain ⟨g, g3⟩ := and_split g
    obtain ⟨g1, g2⟩ := and_split g
    have g1 := of_decide_eq_true g1
    have e := lr_run b i.toNat (of_decide_eq_true g3) (of_decide_eq_true g2)
    rw [Int.toNat_of_nonneg g1] at e
    refine ⟨rfl, rfl, _, e, ?_⟩
    cases q : opAt b i.toNat with
    | none => rw [q] at h; exact h
    | some z => obtain ⟨x, c, y⟩ := z; rw [q] at h; cases c <;> exact h
  · cases h
theorem e_law_number : Ent prog w h₁ 1 "_law_number" dnF := entD A G _ (B 0) simple_law_number (by decide) (by decide) (by unfold nameOk; decide) (by kernel_rfl) fun ps ks k r h => by
  unfold dnF at h
  split at h
  · obtain ⟨g, h⟩ := gate_some h
    exact ⟨rfl, rfl, _, ln_run _ (of_decide_eq_true g), h⟩
  · cases h
theorem e_decode_num : Ent prog w h₁ 1 "decode_num" dnF := entD A G _ (B 0) simple_decode_num (by decide) (by decide) (by unfold nameOk; decide) (by kernel_rfl) fun ps ks k r h => by
  unfold dnF at h
  split at h
  · obtain ⟨g, h⟩ := gate_some h
    exact ⟨rfl, rfl, _, dn_run _ (of_decide_eq_true g), h⟩
  · cases h
theorem e_law_integer : Ent prog w h₁ 1 "_law_integer" liF := entD A G _ (B 0) simple_law_integer (by decide) (by decide) (by unfold nameOk; decide) (by kernel_rfl) fun ps ks k r h => by
  unfold liF at h
  split at h
  · obtain ⟨g, h⟩ := gate_some h
    exact ⟨rfl, rfl, _, li_run _ (lenOk_le g), h⟩
  · cases h
theorem e_is_valid : Ent prog w h₁ 1 "_is_valid_signature_encoding" sgF := entD A G _ (B 0) simple_is_valid_signature_encoding (by decide) (by decide) (by unfold nameOk; decide) (by kernel_rfl) fun ps ks k r h => by
  unfold sgF at h
  split at h
  · obtain ⟨g, h⟩ := gate_some h
    exact ⟨rfl, rfl, _, sg_run _ (lenOk_le g), h⟩
  · cases h
theorem e_push_size : Ent prog w h₁ 1 "_push_size" psF := entD A G _ (B 0) simple_push_size (by decide) (by decide) (by unfold nameOk; decide) (by kernel_rfl) fun ps ks k r h => by
  unfold psF at h
  split at h
  · rename_i b i
    obtain ⟨g, h⟩ := gate_some h
    obtain ⟨g, g3⟩ := and_split g
    obtain ⟨g, g2⟩ := and_split g
    unfold okBI at g
    obtain ⟨g, g5⟩ := and_split g
    obtain ⟨g1, g4⟩ := and_split g
    have g1 := of_decide_eq_true g1
    have e := ps_run b i.toNat (of_decide_eq_true g2) (of_decide_eq_true g5) (of_decide_eq_true g3)
    rw [Int.toNat_of_nonneg g1] at e
    exact ⟨rfl, rfl, _, (ps_tree _ _).trans e, h⟩
  · cases h
theorem e_core : Ent prog w h₁ 1 "_core_op_code_name" coF := entD A G _ (B 0) simple_core_op_code_name (by decide) (by decide) (by unfold nameOk; decide) (by kernel_rfl) fun ps ks k r h => by
  unfold coF at h
  split at h
  · rename_i i
    obtain ⟨g, h⟩ := gate_some h
    obtain ⟨g1, g2⟩ := and_split g
    have g1 := of_decide_eq_true g1
    have g2 := of_decide_eq_true g2
    have e := co_run i.toNat (by omega)
    rw [Int.toNat_of_nonneg g1] at e
    exact ⟨rfl, rfl, _, (co_tree _).trans e, h⟩
  · cases h
theorem e_assert_type : Ent prog w h₁ 1 "assert_type" atF := entD A G _ (B 0) simple_assert_type (by decide) (by decide) (by unfold nameOk; decide) (by kernel_rfl) fun ps ks k r h => by
  unfold atF at h
  split at h
  · obtain ⟨g, h⟩ := gate_some h
    have g := of_decide_eq_true g
    subst g
    exact ⟨rfl, rfl, _, at_run _ _, h⟩
  · cases h
theorem e_assert_ascii : Ent prog w h₁ 1 "_assert_ascii_command" aaF := entD A G _ (B 0) simple_assert_ascii_command (by decide) (by decide) (by unfold nameOk; decide) (by kernel_rfl) fun ps ks k r h => by
  unfold aaF at h
  split at h
  · obtain ⟨g, h⟩ := gate_some h
    refine ⟨rfl, rfl, _, (aa_tree _).trans ?_, h⟩
    rw [g]; rfl
  · cases h
theorem e_op_int : Ent prog w h₁ 1 "op_int" oiF := entD A G _ (B 0) simple_op_int (by decide) (by decide) (by unfold nameOk; decide) (by kernel_rfl) fun ps ks k r h => by
  unfold oiF at h
  split at h
  · rename_i i
    obtain ⟨g, h⟩ := gate_some h
    obtain ⟨g1, g2⟩ := and_split g
    have g1 := of_decide_eq_true g1
    have g2 := of_decide_eq_true g2
    refine ⟨rfl, rfl, _, ?_, h⟩
    rw [← oi_val i g1 g2]
    by_cases c : i = -1
    · subst c; exact oi_neg
    · exact oi_tree i (by omega) g2
  · cases h
end
end Mine
end

/-! Fa4 -/
section
open PySem PySem.W PyProof.Rows
set_option maxRecDepth 100000
namespace Mine
variable {prog : Program} {w : World} {h₁ : Heap} {n : Nat} {K : Frag} {T : Tbl} {φ ψ : Fun}
theorem binds_K {s : Shared} {fd : FuncData} {args : Args} {binds : List (Str × Value)} (X : K.In s.heap) (e : ∀ st, peek K st (bindArgs fd args) = some binds) : BindsTo s fd args binds :=
  fun M _ _ _ q => (Looks.of_peek X (e ⟨M.prog, M.w.params⟩)).here q
def asF : Fun := fun as ks k => match as, ks with
  | [.bytes b], [] => gate (decide (b.length < 4000)) (k (.str (toldS b (askP b false))))
  | [.bytes b], [(x, .bool v)] => gate (decide (x = nm "attempt_sighash_decode") && decide (b.length < 4000)) (k (.str (toldS b (askP b v))))
  | _, _ => none
theorem enc65 {i : Int} (h0 : -9223372036854775808 ≤ i) (h1 : i ≤ 9223372036854775807) : (encP i).length < 65536 := by have := encP_len h0 h1; omega
section
variable (A : AllK w K) (G : Gnd K h₁) (B : ∀ n, TblOk prog w h₁ n base)
include A G B
theorem e_encode_num : Ent prog w h₁ 2 "encode_num" enF := entD A G _ (T := T5) (tbl_of (B 1) (l := [("is_integer", iiF)]) fun p hp => by
    simp only [List.mem_cons, List.not_mem_nil, or_false] at hp; subst hp; exact e_is_integer A G B) simple_encode_num (by decide) (by decide) (by unfold nameOk; decide) (by kernel_rfl) fun ps ks k r h => by
  unfold enF at h
  split at h
  · obtain ⟨g, h⟩ := gate_some h
    obtain ⟨g1, g2⟩ := and_split g
    exact ⟨rfl, rfl, _, (en_tree _).trans (en_run _ (of_decide_eq_true g1) (of_decide_eq_true g2)), h⟩
  · cases h
theorem e_push_int : Ent prog w h₁ 3 "push_int" piF := entD A G _ (T := T6) (tbl_of (B 2) (l := [("op_int", oiF), ("encode_num", enF)]) fun p hp => by
    simp only [List.mem_cons, List.not_mem_nil, or_false] at hp
    rcases hp with h | h <;> subst h
    · exact (e_op_int A G B).more (by decide)
    · exact e_encode_num A G B) simple_push_int (by decide) (by decide) (by unfold nameOk; decide) (by kernel_rfl) fun ps ks k r h => by
  unfold piF at h
  split at h
  · obtain ⟨g, h⟩ := gate_some h
    obtain ⟨g1, g2⟩ := and_split g
    exact ⟨rfl, rfl, _, pi_run _ (of_decide_eq_true g1) (of_decide_eq_true g2), h⟩
  · cases h
theorem pdK : PdK prog w h₁ K := ⟨G.X, G.lim, B, ⟨_, _, globD A G (by decide), fnAtD A (by decide), (dflD A (by decide)).1, (dflD A (by decide)).2⟩, simple_pushdata⟩
theorem e_ser_bytes : Ent prog w h₁ 3 "_serialize_bytes_command" sbF :=
  ⟨by unfold nameOk; decide, _, globD A G (by decide), sb_ok (n := 0) (pdK A G B) (fnAtD A (by decide)) (dflD A (by decide)).1 (dflD A (by decide)).2 simple_serialize_bytes_command⟩
theorem e_ser_int : Ent prog w h₁ 4 "_serialize_int_command" siF := entD A G _ (T := siT) (tbl_of (B 3) (l := [("encode_num", enF), ("_serialize_bytes_command", sbF)]) fun p hp => by
    simp only [List.mem_cons, List.not_mem_nil, or_false] at hp
    rcases hp with h | h <;> subst h
    · exact (e_encode_num A G B).more (by decide)
    · exact e_ser_bytes A G B) simple_serialize_int_command (by decide) (by decide) (by unfold nameOk; decide) (by kernel_rfl) fun ps ks k r h => by
  unfold siF at h
  split at h
  · obtain ⟨g, h⟩ := gate_some h
    obtain ⟨g1, g2⟩ := and_split g
    exact ⟨rfl, rfl, _, (si_tree _).trans ((gateT g).trans (gateT (decide_eq_true (enc65 (of_decide_eq_true g1) (of_decide_eq_true g2))))), h⟩
  · cases h
theorem e_ser_str : Ent prog w h₁ 4 "_serialize_str_command" ssF := entD A G _ (T := ssT) (tbl_of (B 3) (l := [("_assert_ascii_command", aaF), ("_serialize_bytes_command", sbF)]) fun p hp => by
    simp only [List.mem_cons, List.not_mem_nil, or_false] at hp
    rcases hp with h | h <;> subst h
    · exact (e_assert_ascii A G B).more (by decide)
    · exact e_ser_bytes A G B) simple_serialize_str_command (by decide) (by decide) (by unfold nameOk; decide) (by kernel_rfl) fun ps ks k r h => by
  unfold ssF at h
  split at h
  · rename_i x
    split at h
    · rename_i b hb
      refine ⟨rfl, rfl, _, (ss_tree x).trans ?_, h⟩
      unfold ssP at hb
      generalize stripS wsS x = y at hb ⊢
      cases hg : asciiB x && lenOk y.length with
      | false => rw [hg] at hb; cases hb
      | true =>
        rw [hg, cond_true] at hb
        obtain ⟨g1, g2⟩ := and_split hg
        rw [gateT g1, gateT g2]
        cases q1 : opByte.lookup y with
        | some z => rw [q1] at hb; cases hb; rfl
        | none =>
          rw [q1] at hb
          dsimp only at hb
          show (bif (opUnk.lookup y).isSome then _ else _) = _
          cases q2 : opUnk.lookup y with
          | some z => rw [q2] at hb; cases hb; rfl
          | none =>
            rw [q2] at hb
            dsimp only at hb
            show (match hxS y with | some b => _ | none => none) = _
            cases q3 : hxS y with
            | none => rw [q3] at hb; cases hb
            | some z =>
              rw [q3] at hb
              dsimp only at hb
              cases q4 : lenOk z.length && decide (z.length < 65536) with
              | false => rw [q4] at hb; cases hb
              | true =>
                rw [q4] at hb
                cases hb
                obtain ⟨g3, g4⟩ := and_split q4
                exact (gateT g3).trans (gateT g4)
    · cases h
  · cases h
theorem e_serialize : Ent prog w h₁ 5 "serialize" seF := entD A G _ (T := seT) (tbl_of (B 4) (l := [("is_octets", ioF), ("_serialize_int_command", siF), ("_serialize_str_command", ssF), ("_serialize_bytes_command", sbF)]) fun p hp => by
    simp only [List.mem_cons, List.not_mem_nil, or_false] at hp
    rcases hp with h | h | h | h <;> subst h
    · exact (e_is_octets A G B).more (by decide)
    · exact e_ser_int A G B
    · exact e_ser_str A G B
    · exact (e_ser_bytes A G B).more (by decide)) simple_serialize (by decide) (by decide) (by unfold nameOk; decide) (by kernel_rfl) fun ps ks k r h => by
  obtain ⟨h1, ps', p, h2, h3, h4⟩ := seF_ok h
  subst h2
  exact ⟨h1, rfl, p, h3, h4⟩
theorem e_law_all : Ent prog w h₁ 2 "_law_all" laF := entD A G _ (T := T1) (tbl_of (B 1) (l := [("_law_read", lrF)]) fun p hp => by
    simp only [List.mem_cons, List.not_mem_nil, or_false] at hp; subst hp; exact e_law_read A G B) simple_law_all (by decide) (by decide) (by unfold nameOk; decide) (by kernel_rfl) fun ps ks k r h => by
  unfold laF at h
  split at h
  · obtain ⟨g, h⟩ := gate_some h
    exact ⟨rfl, rfl, _, all_run _ (of_decide_eq_true g), h⟩
  · cases h
theorem e_law_signed : Ent prog w h₁ 2 "_law_signed" lsF := entD A G _ (T := T2) (tbl_of (B 1) (l := [("_law_integer", liF)]) fun p hp => by
    simp only [List.mem_cons, List.not_mem_nil, or_false] at hp; subst hp; exact e_law_integer A G B) simple_law_signed (by decide) (by decide) (by unfold nameOk; decide) (by kernel_rfl) fun ps ks k r h => by
  unfold lsF sgF at h
  split at h
  · obtain ⟨g, h⟩ := gate_some h
    exact ⟨rfl, rfl, _, ls_run _ (lenOk_le g), h⟩
  · cases h
theorem e_law_said (D : Ent prog w h₁ 2 "_law_kinds" lkF) : Ent prog w h₁ 3 "_law_said" saF := entD A G _ (T := T4) (tbl_of (B 2) (l := [("_law_all", laF), ("_law_number", dnF), ("_law_kinds", lkF), ("_law_signed", lsF)]) fun p hp => by
    simp only [List.mem_cons, List.not_mem_nil, or_false] at hp
    rcases hp with h | h | h | h <;> subst h
    · exact e_law_all A G B
    · exact (e_law_number A G B).more (by decide)
    · exact D
    · exact e_law_signed A G B) simple_law_said (by decide) (by decide) (by unfold nameOk; decide) (by kernel_rfl) fun ps ks k r h => by
  unfold saF at h
  split at h
  · obtain ⟨g, h⟩ := gate_some h
    exact ⟨rfl, rfl, _, said_run _ _ (of_decide_eq_true g), h⟩
  · cases h
theorem t3_ok : TblOk prog w h₁ 1 T3 := tbl_of (B 1) (l := [("assert_type", atF), ("read_op_code", rdF), ("_core_op_code_name", coF), ("_push_size", psF), ("decode_num", dnF), ("_is_valid_signature_encoding", sgF)]) fun p hp => by
  simp only [List.mem_cons, List.not_mem_nil, or_false] at hp
  rcases hp with h | h | h | h | h | h <;> subst h
  · exact e_assert_type A G B
  · exact e_read_op_code A G B
  · exact e_core A G B
  · exact e_push_size A G B
  · exact e_decode_num A G B
  · exact e_is_valid A G B
theorem e_asm : Ent prog w h₁ 2 "script_to_asm" asF := by
  have F := fnAtD A (f := "script_to_asm") (by decide)
  obtain ⟨o, ho, hod⟩ := F.get G.X
  have hs := F.scope
  refine ⟨by unfold nameOk; decide, _, globD A G (by decide), fun h kp => keeper_fn (kp _ _ ho) hod, fun A' E Q s H args kws ps ks k r R g ha hks e N => ?_⟩
  have go : ∀ {binds pb p}, BindsTo s (fnK K (globK K (nm "script_to_asm"))) ⟨args, kws⟩ binds → RepK prog w H binds pb → scOk (scOf "script_to_asm") (pb.map (·.1)) = true → run T3 (scOf "script_to_asm") (bodyOf "script_to_asm") (valsOf pb) = some p → k p = some r → wpAny (model prog w) A' (call (.ref (globK K (nm "script_to_asm"))) args kws) Q E s := by
    intro binds pb p hb hr hsc hrun e
    rw [← hs] at hsc hrun
    exact run_call (t3_ok A G B) ho hod G.lim (codeRec_of G.X F.code) F.body F.clo F.glob F.blt hsc hb hr hrun R g e N
  unfold asF at e
  split at e
  · obtain ⟨g1, e⟩ := gate_some e
    cases ha with
    | cons hv ha =>
    cases ha
    cases hks
    exact go (binds_K (G.X.keeps g.keep) fun st => A.asmB st _) (.cons hv (.cons (.bool false) .nil)) (by kernel_rfl) (asm_run _ false (of_decide_eq_true g1)) e
  · obtain ⟨g0, e9⟩ := gate_some e
    obtain ⟨g1, g2⟩ := and_split g0
    have g1 := of_decide_eq_true g1
    clear e g0
    subst g1
    cases ha with
    | cons hv ha =>
    cases ha
    cases hks with
    | cons hu hks =>
    cases hks
    exact go (binds_K (G.X.keeps g.keep) fun st => A.asmB2 st _ _) (.cons hv (.cons hu .nil)) (by kernel_rfl) (asm_run _ _ (of_decide_eq_true g2)) e9
  · cases e
def sigF : Fun := runFn base "_law_signature"
def partT : Tbl := LpT ldF sigF loF
def cmdT : Tbl := LcT ldF loF
def partF : Fun := runFn partT "_law_part"
def lcmF : Fun := runFn cmdT "_law_command"
theorem e_law_signature : Ent prog w h₁ 1 "_law_signature" sigF := entD A G _ (B 0) simple_law_signature (by decide) (by decide) (by unfold nameOk; decide) (by kernel_rfl) fun ps ks k r h => by
  obtain ⟨h1, a, p, h2, h3, h4⟩ := runFn_ok h
  subst h2
  exact ⟨h1, rfl, p, h3, h4⟩
theorem e_law_part : Ent prog w h₁ 2 "_law_part" partF := entD A G _ (T := partT) (tbl_of (B 1) (l := [("_law_laid", ldF), ("_law_signature", sigF), ("_law_octets", loF)]) fun p hp => by
    simp only [List.mem_cons, List.not_mem_nil, or_false] at hp
    rcases hp with h | h | h <;> subst h
    · exact e_law_laid A G B
    · exact e_law_signature A G B
    · exact e_law_octets A G B) simple_law_part (by decide) (by decide) (by unfold nameOk; decide) (by kernel_rfl) fun ps ks k r h => by
  obtain ⟨h1, a, p, h2, h3, h4⟩ := runFn_ok h
  subst h2
  exact ⟨h1, rfl, p, h3, h4⟩
theorem e_law_command : Ent prog w h₁ 2 "_law_command" lcmF := entD A G _ (T := cmdT) (tbl_of (B 1) (l := [("_law_laid", ldF), ("_law_octets", loF)]) fun p hp => by
    simp only [List.mem_cons, List.not_mem_nil, or_false] at hp
    rcases hp with h | h <;> subst h
    · exact e_law_laid A G B
    · exact e_law_octets A G B) simple_law_command (by decide) (by decide) (by unfold nameOk; decide) (by kernel_rfl) fun ps ks k r h => by
  obtain ⟨h1, a, p, h2, h3, h4⟩ := runFn_ok h
  subst h2
  exact ⟨h1, rfl, p, h3, h4⟩
end
end Mine
end

/-! Lk0 -/
section
open PySem PySem.W PyProof.Rows PySem.Calls
set_option maxRecDepth 100000
namespace Mine
variable {prog : Program} {w : World} {h₁ : Heap} {n : Nat} {K : Frag} {T : Tbl} {φ ψ : Fun} {A : Around} {E : Value → Shared → Prop} {s : Shared} {H : PHeap}
def IsSix (e : Expr) (a1 a2 a3 a4 a5 a6 : Str) : Prop := ∃ p1 p2 p3 p4 p5 p6 p7 p8 p9 q1 q2 q3 q4 : Pos, e = .Dict [some (.Constant (.int 1) 0 p1), some (.Constant (.int 129) 0 p2), some (.Constant (.int 2) 0 p3), some (.Constant (.int 130) 0 p4), some (.Constant (.int 3) 0 p5), some (.Constant (.int 131) 0 p6)]
   [.Constant (.str a1) 0 p7, .Constant (.str a2) 0 p8, .Constant (.str a3) 0 p9, .Constant (.str a4) 0 q1, .Constant (.str a5) 0 q2, .Constant (.str a6) 0 q3] q4
def sixL (a1 a2 a3 a4 a5 a6 : Str) (t1 t2 t3 t4 t5 t6 : Tok) : List (Int × Value) := merged [] [(1, .str a1 t1), (129, .str a2 t2), (2, .str a3 t3), (130, .str a4 t4), (3, .str a5 t5), (131, .str a6 t6)]
theorem dict_six {env : PySem.Env} {p1 p2 p3 p4 p5 p6 p7 p8 p9 q1 q2 q3 q4 : Pos} {a1 a2 a3 a4 a5 a6 : Str} {Q : Value → Shared → Prop}
   (q : ∀ h' tk t1 t2 t3 t4 t5 t6, h'.DictOf (intKind prog w) s.heap.objs.size (merged [] [(1, .str a1 t1), (129, .str a2 t2), (2, .str a3 t3), (130, .str a4 t4), (3, .str a5 t5), (131, .str a6 t6)]) → (∀ c o, s.heap.get? c = some o → h'.get? c = some o) → Q (.ref s.heap.objs.size) { s with heap := h', toks := tk }) :
   wpAny (model prog w) A (eval (.Dict [some (.Constant (.int 1) 0 p1), some (.Constant (.int 129) 0 p2), some (.Constant (.int 2) 0 p3), some (.Constant (.int 130) 0 p4), some (.Constant (.int 3) 0 p5), some (.Constant (.int 131) 0 p6)]
   [.Constant (.str a1) 0 p7, .Constant (.str a2) 0 p8, .Constant (.str a3) 0 p9, .Constant (.str a4) 0 q1, .Constant (.str a5) 0 q2, .Constant (.str a6) 0 q3] q4) env) Q E s := by
  refine wpAny_Dict_walk (knd := intKind prog w) ?_ ?_ ?_ ?_ ?_
  · rfl
  · rfl
  · exact List.cons_ne_nil _ _
  · show 6 ≤ 15; decide
  refine pairTrees_cons_walk (wpAny_Constant_int (wpAny_Constant_str ?_))
  refine pairTrees_cons_walk (wpAny_Constant_int (wpAny_Constant_str ?_))
  refine pairTrees_cons_walk (wpAny_Constant_int (wpAny_Constant_str ?_))
  refine pairTrees_cons_walk (wpAny_Constant_int (wpAny_Constant_str ?_))
  refine pairTrees_cons_walk (wpAny_Constant_int (wpAny_Constant_str ?_))
  refine pairTrees_cons_walk (wpAny_Constant_int (wpAny_Constant_str (pairTrees_nil_walk ?_)))
  refine ⟨[(1, _), (129, _), (2, _), (130, _), (3, _), (131, _)], ⟨rfl, rfl, rfl, rfl, rfl, rfl, rfl, rfl, rfl, rfl, rfl, rfl, trivial⟩, ⟨_, _, _, Heap.get?_push_size _ rfl, ⟨rfl, rfl, rfl⟩, rfl, fun e h => (by simp at h), .nil, List.nodup_nil⟩, fun h' hd' hb' => ?_⟩
  exact q h' _ _ _ _ _ _ _ hd' fun c o e => (hb'.2 c (Nat.ne_of_lt (Heap.lt_size e))).trans (Heap.get?_push_of_some _ e)
theorem dict_is {env : PySem.Env} {e : Expr} {a1 a2 a3 a4 a5 a6 : Str} {Q : Value → Shared → Prop} (he : IsSix e a1 a2 a3 a4 a5 a6)
   (q : ∀ h' tk t1 t2 t3 t4 t5 t6, h'.DictOf (intKind prog w) s.heap.objs.size (sixL a1 a2 a3 a4 a5 a6 t1 t2 t3 t4 t5 t6) → (∀ c o, s.heap.get? c = some o → h'.get? c = some o) → Q (.ref s.heap.objs.size) { s with heap := h', toks := tk }) :
   wpAny (model prog w) A (eval e env) Q E s := by
  obtain ⟨p1, p2, p3, p4, p5, p6, p7, p8, p9, q1, q2, q3, q4, he⟩ := he
  subst he
  exact @dict_six prog w A E s env p1 p2 p3 p4 p5 p6 p7 p8 p9 q1 q2 q3 q4 a1 a2 a3 a4 a5 a6 Q q
end Mine
end

/-! Lk1 -/
section
open PySem PySem.W PyProof.Rows PySem.Calls
set_option maxRecDepth 100000
namespace Mine
variable {prog : Program} {w : World} {h₁ : Heap} {n : Nat} {K : Frag} {T : Tbl} {φ ψ : Fun} {A : Around} {E : Value → Shared → Prop} {s : Shared} {H : PHeap}
theorem lk_body : ∃ (a1 a2 a3 a4 a5 a6 : Str) (D : Expr) (q5 : Pos), bodyOf "_law_kinds" = [.Return (some D) q5] ∧ IsSix D a1 a2 a3 a4 a5 a6 ∧ sigName = [(1, a1), (129, a2), (2, a3), (130, a4), (3, a5), (131, a6)] :=
  ⟨nm "ALL", nm "ALL|ANYONECANPAY", nm "NONE", nm "NONE|ANYONECANPAY", nm "SINGLE", nm "SINGLE|ANYONECANPAY", _, _, by with_unfolding_all rfl, ⟨_, _, _, _, _, _, _, _, _, _, _, _, _, by with_unfolding_all rfl⟩, by kernel_rfl⟩
theorem six_at {a1 a2 a3 a4 a5 a6 : Str} {t1 t2 t3 t4 t5 t6 : Tok} (k : Int) : TextAt (valueAt (sixL a1 a2 a3 a4 a5 a6 t1 t2 t3 t4 t5 t6) k)
    (List.lookup k [((1 : Int), a1), (129, a2), (2, a3), (130, a4), (3, a5), (131, a6)]) := by
  rw [show sixL a1 a2 a3 a4 a5 a6 t1 t2 t3 t4 t5 t6 = [((1 : Int), Value.str a1 t1), (129, .str a2 t2), (2, .str a3 t3), (130, .str a4 t4), (3, .str a5 t5), (131, .str a6 t6)] from by kernel_rfl]
  have go : ∀ (l : List (Int × Str × Tok)), TextAt (valueAt (l.map fun x => (x.1, Value.str x.2.1 x.2.2)) k) (List.lookup k (l.map fun x => (x.1, x.2.1))) := by
    intro l
    induction l with
    | nil => exact rfl
    | cons x l ih =>
      unfold valueAt at ih ⊢
      rw [List.map_cons, List.map_cons, List.find?_cons]
      by_cases c : x.1 = k
      · rw [decide_eq_true c]
        subst c
        show TextAt _ (match (x.1 == x.1) with | true => some x.2.1 | false => _)
        rw [beq_self_eq_true]
        exact ⟨_, rfl⟩
      · rw [decide_eq_false c]
        show TextAt _ (match (k == x.1) with | true => some x.2.1 | false => _)
        rw [beq_false_of_ne (Ne.symm c)]
        exact ih
  exact go [(1, a1, t1), (129, a2, t2), (2, a3, t3), (130, a4, t4), (3, a5, t5), (131, a6, t6)]
theorem lk_ok (A₀ : AllK w K) (G : Gnd K h₁) : FunOk prog w h₁ (n + 1) (.ref (globK K (nm "_law_kinds"))) lkF := by
  have F := fnAtD A₀ (f := "_law_kinds") (by decide)
  obtain ⟨o, ho, hod⟩ := F.get G.X
  have hs := F.scope
  refine ⟨fun h kp => keeper_fn (kp _ _ ho) hod, fun A E Q s H args kws ps ks k r R g ha hks e N => ?_⟩
  unfold lkF at e
  split at e
  rotate_left
  · cases e
  cases ha
  cases hks
  refine wpAny_call (code_open (n := n) (pb := []) (g.keep _ _ ho) hod (G.lim.keeps g.keep) ((codeRec_of G.X F.code).keeps g.keep) F.body F.clo F.glob F.blt (by rw [hs]; kernel_rfl) (.of_eq (simple_law_kinds _ [] F.params (dflD A₀ (by decide)).1 (dflD A₀ (by decide)).2 rfl)) .nil R g fun env Mu s₁ ok R' fb => ?_)
  obtain ⟨a1, a2, a3, a4, a5, a6, D, q5, eb, isx, sig⟩ := lk_body
  rw [eb]
  refine wpAny_execs_cons (wpAny_Return_some (dict_is isx fun h' tk t1 t2 t3 t4 t5 t6 hd' kp => ?_))
  have hm := hd'.mapOf
  obtain ⟨o', es, ep, ho', h5⟩ := id hm
  have af : After s₁ H { s₁ with heap := h', toks := tk } (withObj H s₁.heap.objs.size o') := After.new fb.mid.sub kp (get_size_none _) ho'
  have fin := fb.finish.trans af
  have lt : 3 < s₁.heap.objs.size := by
    obtain ⟨mg, mb, g1, _⟩ := G.ns
    obtain ⟨o3, _, _, q, _⟩ := g1
    exact Heap.lt_size (fb.base.keep _ _ q)
  refine N (.ref s₁.heap.objs.size) (.dci sigName) _ _ fin (.dci (withObj_self _ _ _) (beq_false_of_ne (show s₁.heap.objs.size ≠ 1 by omega)) (fun h e => ⟨o', es, ep, e, h5⟩) fun k => ?_) e
  rw [sig]
  exact six_at k
end Mine
end

/-! Fa5 -/
section
open PySem PySem.W PyProof.Rows
set_option maxRecDepth 100000
namespace Mine
variable {prog : Program} {w : World} {h₁ : Heap} {n : Nat} {K : Frag} {T : Tbl} {φ ψ : Fun} {s : Shared} {H : PHeap}
section
variable (A : AllK w K) (G : Gnd K h₁) (B : ∀ n, TblOk prog w h₁ n base)
include A G B
theorem ti_ok (n : Nat) : TblOk prog w h₁ n TI := tb_ok (B n) fun p hp => by
  simp only [List.mem_cons, List.not_mem_nil, or_false] at hp
  rcases hp with h | h <;> subst h
  · exact ⟨by unfold nameOk; decide, _, globB A G (x := "type") (by simp [blt]), ty_ok⟩
  · exact ⟨by unfold nameOk; decide, _, globB A G (x := "int") (by simp [blt]), in_ok⟩
theorem tbb_ok (n : Nat) : TblOk prog w h₁ n TB := tb_ok (B n) fun p hp => by
  simp only [List.mem_cons, List.not_mem_nil, or_false] at hp
  subst hp
  exact ⟨by unfold nameOk; decide, _, globB A G (x := "bytes") (by simp [blt]), bb_ok⟩
theorem e_index : Ent prog w h₁ 1 "_index" ixF := entD A G _ (ti_ok A G B 0) simple_index (by decide) (by decide) (by unfold nameOk; decide) (by kernel_rfl) fun ps ks k r h => by
  unfold ixF at h
  split at h
  · obtain ⟨g, h⟩ := gate_some h
    obtain ⟨g1, g2⟩ := and_split g
    exact ⟨rfl, rfl, _, ix_run _ _ (of_decide_eq_true g1) (of_decide_eq_true g2), h⟩
  · cases h
theorem tr_ok (n : Nat) : TblOk prog w h₁ (n + 1) TR := tb_ok (B _) fun p hp => by
  simp only [List.mem_cons, List.not_mem_nil, or_false] at hp
  subst hp
  exact (e_index A G B).more (by omega)
theorem tc_ok (n : Nat) : TblOk prog w h₁ n (TC (bioC K)) := by
  refine ⟨fun x p e => ?_, (B n).fn, (B n).mt⟩
  unfold TC at e
  dsimp only at e
  cases q : decide (nm "BytesIO" = x) with
  | true =>
    rw [q] at e
    cases e
    have := of_decide_eq_true q
    subst this
    exact ⟨by unfold nameOk; decide, _, glob_of G.X G.ns2 A.cls, .raw _⟩
  | false => rw [q] at e; exact (B n).gl x p e
theorem fnAtM {f : Addr} {pa : Arguments} {bd : List Stmt} {sc : Scope} (h : fnB K f = true ∧ (fnK K f).params = pa ∧ (fnK K f).body = .stmts bd ∧ (fnK K f).scope = sc) : FnAt K f pa bd sc (fnK K f) := fnAt_of h.1 h.2.1 h.2.2.1 h.2.2.2
theorem makeK : MakeK prog w h₁ K (bioC K) (smP K) (smF K) (methK K (bioC K) (nm "__init__")) (methK K (bioC K) (nm "read")) (methK K (bioC K) (nm "_BytesIO__check")) :=
  ⟨G.X, G.lim, ⟨_, fnAtM A G B A.newF, A.newD⟩, ⟨_, fnAtM A G B A.initF, fun s X v1 v2 => binds_K X fun st => A.initB st v1 v2⟩, A.bio, A.clsK, tc_ok A G B, ti_ok A G B, globB A G (x := "object") (by simp [blt]), globB A G (x := "bytearray") (by simp [blt])⟩
theorem openK : OpenK' prog w h₁ K (bioC K) (smP K) (smF K) (methK K (bioC K) (nm "__init__")) (methK K (bioC K) (nm "read")) (methK K (bioC K) (nm "_BytesIO__check")) :=
  { makeK A G B with
    isi := A.isi
    gisi := globB A G (x := "isinstance") (by simp [blt])
    gC := glob_of G.X G.ns2 A.cls
    bfo := ⟨_, _, globD A G (by decide), fnAtD A (by decide), fun s X v => binds_K X fun st => A.bfoB st v⟩
    TB := tbb_ok A G B }
theorem loopK' : LoopK prog w h₁ K (bioC K) (methK K (bioC K) (nm "read")) (methK K (bioC K) (nm "_BytesIO__check")) where
  X := G.X
  lim := G.lim
  read := ⟨_, fnAtM A G B A.readF, fun s X v1 v2 => binds_K X fun st => A.readB st v1 v2⟩
  check := ⟨_, fnAtM A G B A.checkF, A.checkD⟩
  TO := tr_ok A G B
  len := globB A G (x := "len") (by simp [blt])
  bytes := globB A G (x := "bytes") (by simp [blt])
  cls := A.clsK
  push := ⟨_, _, globD A G (by decide), fnAtD A (by decide), dflD A (by decide)⟩
  base := B
theorem parse_ok {Ar : Around} {E : Value → Shared → Prop} {Q : Value → Shared → Prop} {b : List UInt8} {v : Value} (Rm : Room (n + 5) Ar) (g : Base h₁ H s) (hv : Rep prog w H v (.bytes b)) (hl : b.length < 4000)
    (q : ∀ v s' H', After s H s' H' → Rep prog w H' v (.lst (tailS b 4000 0)) → Q v s') : wpC (model prog w) Ar (call (.ref (globK K (nm "parse"))) [v]) Q E s := by
  cases hv
  exact parse_call (n := n) (openK A G B) (loopK' A G B) (fnAtD A (by decide)) (dflD A (by decide)).1 (dflD A (by decide)).2 (globD A G (by decide)) (fnAtD A (by decide)) (dflD A (by decide)).1 (dflD A (by decide)).2 Rm g hl q
theorem e_law_kinds : Ent prog w h₁ 2 "_law_kinds" lkF := ⟨by unfold nameOk; decide, _, globD A G (by decide), lk_ok A G⟩
end
theorem lenc {z : Int} (lo : -9223372036854775808 ≤ z) (hi : z ≤ 9223372036854775807) : z.natAbs < 256 ^ 9 := by
  have : (256 : Nat) ^ 9 = 4722366482869645213696 := by decide
  omega
theorem part_facts : PartF ldF sigF loF where
  laid := fun b k h => gateT (decide_eq_true h)
  sig := fun m => by
    obtain ⟨r, hr, e⟩ := sig_run m
    refine ⟨r, hr, fun k => ?_⟩
    show (match runF base "_law_signature" [.int m] with | some p => k p | none => none) = _
    rw [e]
  oct := fun z lo hi => ⟨encP z, Nat.le_trans (encP_len lo hi) (by decide), fun k => gateT (decide_eq_true (lenc lo hi))⟩
theorem cmd_facts : CmdF ldF loF where
  laid := fun b k h => gateT (decide_eq_true h)
  oct := fun z lo hi k => gateT (decide_eq_true (lenc lo hi))
end Mine
end

/-! Lb1 -/
section
open PySem
set_option maxRecDepth 100000
namespace Mine
def LT (φp φc : Fun) : Tbl := tb [(nm "_law_part", φp), (nm "_law_all", laF), (nm "read_op_code", rdF), (nm "script_to_asm", asF), (nm "_law_said", saF), (nm "serialize", seF), (nm "_law_command", φc), (nm "push_int", piF), (nm "_law_laid", ldF), (nm "_law_octets", loF)]
abbrev lsc : Scope := scOf "law"
abbrev exL (φp φc : Fun) : Stmt → Vars → KS → Option PV := exN (LT φp φc) lsc 16 4000 8
abbrev stL (i : Nat) : Stmt := stb "law" i
def frI : Stmt → Option (Expr × List Stmt)
  | .For t _ b _ _ => some (t, b)
  | _ => none
/-- the law's loop at place i -/
def forL (φp φc : Fun) (i : Nat) (xs : List PV) (σ : Vars) (k : KS) : Option PV := match frI (stL i) with
  | some (t, b) => forK (bindT lsc t) (exList (exN (LT φp φc) lsc 16 4000 7) b) xs σ k
  | none => none
section
variable (φp φc : Fun) (l : List PV) (h : Int) (k : KS)
def v1 (l : List PV) (h : Int) (r : Vars) : Vars := (nm "script", .val (.lst l)) :: (nm "head", .val (.int h)) :: r
theorem lw0 : exL φp φc (stL 0) [(nm "script", .val (.lst l))] k = gate (lenOk l.length) (bif !l.isEmpty then itemK (.lst l) (.int 0) fun p => k .next [(nm "script", .val (.lst l)), (nm "head", .val p)] else k .next (v1 l 0 [])) := by kernel_rfl
theorem lw1 : exL φp φc (stL 1) (v1 l h []) k = gate (lenOk l.length) (gate (lenOk (cutL l (some 1) (some 7)).length) (compK (fun x kk => φp [x] [] kk) (cutL l (some 1) (some 7)) fun ys => bjoinF [] [.lst ys] [] fun p => k .next (v1 l h [(nm "code", .val p)]))) := by kernel_rfl
def v2 (l : List PV) (h : Int) (c : List UInt8) (r : Vars) : Vars := v1 l h ((nm "code", .val (.bytes c)) :: r)
theorem lw2 (c : List UInt8) : exL φp φc (stL 2) (v2 l h c []) k = bif decide (h.fmod 3 = 0) then truK (.bytes c) fun b => bif b then lenB c fun n => lenB c fun n2 => binK .Mod (.int (h.fdiv 3)) (.int n2) fun q => binK .Sub (.int n) q fun z => sliceK (.bytes c) .none z fun r => k .next (putV (v2 l h c []) (nm "code") (.val r)) else k .next (v2 l h c []) else k .next (v2 l h c []) := by kernel_rfl
def v3 (l : List PV) (h : Int) (c : List UInt8) (r : Vars) : Vars := v2 l h c ((nm "found", .val (.lst ((allP c).1.map itemP))) :: (nm "at", .val (.int ((allP c).2.1 : Nat))) :: (nm "broken", .val (.bool (allP c).2.2)) :: r)
theorem lw3 (c : List UInt8) : exL φp φc (stL 3) (v2 l h c []) k = gate (decide (c.length < 4000)) (k .next (v3 l h c [])) := by kernel_rfl
def v4 (l : List PV) (h : Int) (c : List UInt8) (ns : List PV) (r : Vars) : Vars := v3 l h c ((nm "names", .own ns) :: r)
theorem lw4 (c : List UInt8) : exL φp φc (stL 4) (v3 l h c []) k = k .next (v4 l h c [] []) := by kernel_rfl
abbrev LO := Option (PV × PV × PV × PV)
def loV : LO → Vars
  | none => []
  | some (a, b, c, d) => [(nm "word", .val a), (nm "octets", .val b), (nm "begin", .val c), (nm "behind", .val d)]
theorem lw5 (c : List UInt8) : exL φp φc (stL 5) (v4 l h c [] []) k = gate (lenOk ((allP c).1.map itemP).length) (forL φp φc 5 ((allP c).1.map itemP) (v4 l h c [] []) k) := by kernel_rfl
theorem lw5_nil (σ : Vars) : forL φp φc 5 [] σ k = k .next σ := by kernel_rfl
theorem lw5_none (c : List UInt8) (ns xs : List PV) (o : LO) (w i e : Nat) : forL φp φc 5 (itemP (w, none, i, e) :: xs) (v4 l h c ns (loV o)) k = nmT (w : Nat) fun p => gate (lenOk ns.length) (forL φp φc 5 xs (v4 l h c (ns ++ [p]) (loV (some (.int (w : Nat), .none, .int (i : Nat), .int (e : Nat))))) k) := by
  rcases o with _ | ⟨a, b, c, d⟩ <;> kernel_rfl
theorem lw5_some (c : List UInt8) (ns xs : List PV) (o : LO) (w i e : Nat) (x : List UInt8) : forL φp φc 5 (itemP (w, some x, i, e) :: xs) (v4 l h c ns (loV o)) k =
   (let go := fun p => gate (lenOk ns.length) (forL φp φc 5 xs (v4 l h c (ns ++ [p]) (loV (some (.int (w : Nat), .bytes x, .int (i : Nat), .int (e : Nat))))) k)
    gate (lenOk x.length) (bif !x.isEmpty then hexT x fun y => upF y [] [] go else go (.str (nm "OP_0")))) := by
  rcases o with _ | ⟨a, b, c, d⟩ <;> kernel_rfl
end
end Mine
end

/-! Lb2 -/
section
open PySem
set_option maxRecDepth 100000
namespace Mine
section
variable (φp φc : Fun) (l : List PV) (h : Int) (c : List UInt8) (ns ts : List PV) (k : KS)
/-- behind told -/
def v6 (l : List PV) (h : Int) (c : List UInt8) (ns ts : List PV) (r : Vars) : Vars := v4 l h c ns ((nm "told", .val (.lst ts)) :: r)
def noL (σ : Vars) (k : KS) (b : Bool) : Option PV := bif b then k (.ret (.bool false)) σ else k .next σ
theorem lw7 : exL φp φc (stL 7) (v6 l h c ns ts []) k = bif (allP c).2.2 then gate (lenOk (ns.length + 1)) (eqPyK (.lst ts) (.lst (ns ++ [.str (nm "[error]")])) fun b => noL (v6 l h c ns ts []) k (!b))
   else gate (lenOk (ns.length + 0)) (eqPyK (.lst ts) (.lst (ns ++ [])) fun b => noL (v6 l h c ns ts []) k (!b)) := by kernel_rfl
def lcP : Expr → Option (Expr × Expr × Scope)
  | .ListComp elt [⟨tgt, _, _, _⟩] csc _ => some (elt, tgt, csc)
  | _ => none
def lcF (T : Tbl) (m : Nat) (e : Expr) (ρ : Rd) : PV → K → Option PV := fun x kk => match lcP e with
  | some (elt, tgt, csc) => (match bindT csc tgt x [] with
    | some σ => (evN T m).ev csc elt (rdC csc σ ρ) kk
    | none => none)
  | none => none
def lc8 : Expr := match stL 8 with
  | .If (.Compare _ _ [e] _) _ _ _ => e
  | _ => default
theorem lw8 (kk : K) : (evN (LT φp φc) 16).ev lsc lc8 (rdV (v6 l h c ns ts [])) kk = gate (lenOk ((allP c).1.map itemP).length) (compK (lcF (LT φp φc) 15 lc8 (rdV (v6 l h c ns ts []))) ((allP c).1.map itemP) fun ys => kk (.lst ys)) := by kernel_rfl
theorem lw8_one (ρ : Rd) (w i e : Int) (x : PV) (kk : K) : lcF (LT φp φc) 15 lc8 ρ (.tup [.int w, x, .int i, .int e]) kk = kk (.tup [.int w, .int i, .int e]) := by kernel_rfl
theorem lw9 : exL φp φc (stL 9) (v6 l h c ns ts []) k = gate (lenOk ((allP c).1.map itemP).length) (forL φp φc 9 ((allP c).1.map itemP) (v6 l h c ns ts []) k) := by kernel_rfl
theorem lw9_nil (σ : Vars) : forL φp φc 9 [] σ k = k .next σ := by kernel_rfl
theorem lw9_one (xs : List PV) (o : LO) (w i e : Nat) (x : PV) : forL φp φc 9 (.tup [.int (w : Nat), x, .int (i : Nat), .int (e : Nat)] :: xs) (v6 l h c ns ts (loV o)) k =
   (let σ' := v6 l h c ns ts (loV (some (.int (w : Nat), x, .int (i : Nat), .int (e : Nat))))
    rdF [.bytes c, .int (i : Nat)] [] fun p => cmpK .NotEq p (.tup [.int (w : Nat), .int (e : Nat)]) fun b => bif b then k (.ret (.bool false)) σ' else forL φp φc 9 xs σ' k) := by
  rcases o with _ | ⟨a, b, c, d⟩ <;> kernel_rfl
theorem lw10 : exL φp φc (stL 10) (v6 l h c ns ts []) k = (let σ := v6 l h c ns ts []
   let rest := asF [.bytes c] [] fun p => saF [.bytes c, .bool false] [] fun q => cmpK .NotEq p q fun b => noL σ k b
   rdF [.bytes c, .int ((allP c).2.1 : Nat)] [] fun p => cmpK .IsNot p .none fun b => bif b then k (.ret (.bool false)) σ else rest) := by kernel_rfl
theorem lw11 : exL φp φc (stL 11) (v6 l h c ns ts []) k = asF [.bytes c] [(nm "attempt_sighash_decode", .bool true)] fun p => saF [.bytes c, .bool true] [] fun q => cmpK .NotEq p q fun b => noL (v6 l h c ns ts []) k b := by kernel_rfl
def lc12 : Expr := match stL 12 with
  | .Assign _ (.Call _ [e] _ _) _ => e
  | _ => default
def v12 (l : List PV) (h : Int) (c : List UInt8) (ns ts : List PV) (s : PV) (r : Vars) : Vars := v6 l h c ns ts ((nm "short", .val s) :: r)
theorem lw12 : exL φp φc (stL 12) (v6 l h c ns ts []) k = gate (lenOk ((allP c).1.map itemP).length) (compK (lcF (LT φp φc) 14 lc12 (rdV (v6 l h c ns ts []))) ((allP c).1.map itemP) fun ys => bjoinF [] [.lst ys] [] fun s => k .next (v12 l h c ns ts s [])) := by kernel_rfl
theorem lw12_none (ρ : Rd) (w i e : Int) (kk : K) : lcF (LT φp φc) 14 lc12 ρ (.tup [.int w, .none, .int i, .int e]) kk = b1T w fun x => kk (.bytes x) := by kernel_rfl
theorem lw12_some (ρ : Rd) (w i e : Int) (x : List UInt8) (kk : K) : lcF (LT φp φc) 14 lc12 ρ (.tup [.int w, .bytes x, .int i, .int e]) kk = ldF [.bytes x] [] kk := by kernel_rfl
def v13 (l : List PV) (h : Int) (c : List UInt8) (ns ts : List PV) (s a : PV) (r : Vars) : Vars := v12 l h c ns ts s ((nm "again", .val a) :: r)
theorem lw13 (s : List UInt8) : exL φp φc (stL 13) (v12 l h c ns ts (.bytes s) []) k = seF [.lst ns] [] fun a => gate (flatP a) (k .next (v13 l h c ns ts (.bytes s) a [])) := by kernel_rfl
end
end Mine
end

/-! Lb3 -/
section
open PySem
set_option maxRecDepth 100000
namespace Mine
section
variable (φp φc : Fun) (l : List PV) (h : Int) (k : KS)
theorem lw15 : exL φp φc (stL 15) (v1 l h []) k = gate (lenOk l.length) (gate (lenOk (cutL l (some 1) (some 7)).length) (compK (fun x kk => φc [x] [] kk) (cutL l (some 1) (some 7)) fun ys => k .next (v1 l h [(nm "commands", .val (.lst ys))]))) := by kernel_rfl
def lc16a : Expr := match stL 16 with
  | .If (.Compare (.Call _ [e] _ _) _ _ _) _ _ _ => e
  | _ => default
def lc16b : Expr := match stL 16 with
  | .If (.Compare _ _ [.Call _ [e] _ _] _) _ _ _ => e
  | _ => default
theorem lw16 (cs : List PV) : exL φp φc (stL 16) (v1 l h [(nm "commands", .val (.lst cs))]) k = (let σ := v1 l h [(nm "commands", .val (.lst cs))]
   gate (lenOk cs.length) (compK (lcF (LT φp φc) 13 lc16a (rdA σ)) cs fun a => seF [.lst a] [] fun p => gate (lenOk cs.length) (compK (lcF (LT φp φc) 13 lc16b (rdA σ)) cs fun b => bjoinF [] [.lst b] [] fun q => cmpK .NotEq p q fun t => noL σ k t))) := by kernel_rfl
theorem lw16a (ρ : Rd) (a b : PV) (kk : K) : lcF (LT φp φc) 13 lc16a ρ (.tup [a, b]) kk = kk a := by kernel_rfl
theorem lw16b (ρ : Rd) (a b : PV) (kk : K) : lcF (LT φp φc) 13 lc16b ρ (.tup [a, b]) kk = kk b := by kernel_rfl
abbrev LP3 := Option (PV × PV × PV)
def loP : LP3 → Vars
  | none => []
  | some (a, b, c) => [(nm "number", .val a), (nm "value", .val b), (nm "due", .val c)]
theorem lw17 : exL φp φc (stL 17) (v1 l h []) k = gate (lenOk l.length) (gate (lenOk (cutL l (some 1) (some 4)).length) (forL φp φc 17 (cutL l (some 1) (some 4)) (v1 l h []) k)) := by kernel_rfl
theorem lw17_nil (σ : Vars) : forL φp φc 17 [] σ k = k .next σ := by kernel_rfl
theorem lw17_one (xs : List PV) (o : LP3) (m : Int) : forL φp φc 17 (.int m :: xs) (v1 l h (loP o)) k =
   (let v := m.fmod 400 - 200
    let go := fun d => piF [.int v] [] fun p => seF [.lst [p]] [] fun q => cmpK .NotEq q d fun t => bif t then k (.ret (.bool false)) (v1 l h (loP (some (.int m, .int v, d)))) else forL φp φc 17 xs (v1 l h (loP (some (.int m, .int v, d)))) k
    let small := b1T (80 + v) fun x => go (.bytes x)
    let big := loF [.int v] [] fun x => ldF [x] [] go
    bif decide (v = -1) then small else bif decide (1 ≤ v) then (bif decide (v ≤ 16) then small else big) else big) := by
  rcases o with _ | ⟨a, b, c⟩ <;> kernel_rfl
theorem lw18 : exL φp φc (stL 18) (v1 l h []) k = forL φp φc 18 [.int ((2 : Int) ^ (63 : Int).toNat - 1), .int (-((2 : Int) ^ (63 : Int).toNat)), .int (h.fmod ((2 : Int) ^ (62 : Int).toNat)), .int (0 - (h.fdiv 3).fmod ((2 : Int) ^ (62 : Int).toNat))] (v1 l h []) k := by kernel_rfl
theorem lw18_nil (σ : Vars) : forL φp φc 18 [] σ k = k .next σ := by kernel_rfl
def oV : Option PV → Vars
  | none => []
  | some a => [(nm "value", .val a)]
theorem lw18_one (xs : List PV) (o : Option PV) (v : Int) : forL φp φc 18 (.int v :: xs) (v1 l h (oV o)) k =
   seF [.lst [.int v]] [] fun p => loF [.int v] [] fun q => ldF [q] [] fun r => cmpK .NotEq p r fun t => bif t then k (.ret (.bool false)) (v1 l h (oV (some (.int v)))) else forL φp φc 18 xs (v1 l h (oV (some (.int v)))) k := by
  rcases o with _ | a <;> kernel_rfl
theorem lw23 : exL φp φc (stL 23) (v1 l h []) k = k (.ret (.bool true)) (v1 l h []) := by kernel_rfl
end
end Mine
end

/-! Lb5 -/
section
open PySem PySem.W PyProof.Rows
set_option maxRecDepth 100000
namespace Mine
theorem eqPy_self {p : PV} {d : PyData} (k : Bool → Option PV) (h : toPy p = some d) (hs : SeqAt.shaped d = true) : eqPyK p p k = k true := by
  unfold eqPyK
  rw [h]
  dsimp only
  rw [gateT (by rw [hs]; rfl), SeqAt.eqv_refl d (SeqAt.canLay_of_shaped hs)]
theorem strOk_ascii {x : Str} (h : asciiB x = true) : PyData.strOk x = true := by
  unfold asciiB at h
  show (x.cps.all (· < 0x110000)) = true
  rw [← Array.all_toList] at h ⊢
  refine List.all_eq_true.mpr fun y hy => ?_
  have := of_decide_eq_true (List.all_eq_true.mp h y hy)
  exact decide_eq_true (by omega)
theorem toPyL_strs : ∀ xs : List Str, toPyL (xs.map .str) = some (xs.map .str)
  | [] => rfl
  | x :: xs => by rw [List.map_cons]; simp only [toPyL, toPy]; rw [toPyL_strs xs]; rfl
theorem lay_strs : ∀ xs : List Str, (∀ x ∈ xs, asciiB x = true) → PyData.canLayAll0 (xs.map PyData.str) = true
  | [], _ => rfl
  | x :: xs, h => by
    rw [List.map_cons]
    show (PyData.canLay0 (.str x) && _) = true
    rw [lay_strs xs fun y hy => h y (.tail _ hy)]
    show (PyData.strOk x && true) = true
    rw [strOk_ascii (h x (.head _))]; rfl
theorem dep_strs : ∀ xs : List Str, PyData.depthAll (xs.map PyData.str) = 0
  | [] => rfl
  | x :: xs => by
    rw [List.map_cons]
    show max (PyData.depth (.str x)) _ = 0
    rw [dep_strs xs]; rfl
theorem eqPy_strs (xs : List Str) (h : ∀ x ∈ xs, asciiB x = true) (k : Bool → Option PV) : eqPyK (.lst (xs.map .str)) (.lst (xs.map .str)) k = k true := by
  refine eqPy_self (d := .list (xs.map .str)) k ?_ ?_
  · simp only [toPy]; rw [toPyL_strs]
  · unfold SeqAt.shaped
    rw [show PyData.canLay0 (.list (xs.map PyData.str)) = true from lay_strs xs h, decide_eq_true (by show PyData.depthAll _ + 1 ≤ 64; rw [dep_strs]; decide)]; rfl
theorem eqPy_pair (w e : Int) (k : Bool → Option PV) : eqPyK (.tup [.int w, .int e]) (.tup [.int w, .int e]) k = k true :=
  eqPy_self (d := .tuple [.int w, .int e]) k rfl (by rfl)
def tripD (x : Item) : PyData := .tuple [.int (x.1 : Nat), .int (x.2.2.1 : Nat), .int (x.2.2.2 : Nat)]
theorem toPyL_trips : ∀ xs : List Item, toPyL (xs.map spanI) = some (xs.map tripD)
  | [] => rfl
  | x :: xs => by rw [List.map_cons]; simp only [toPyL, toPy, spanI]; rw [toPyL_trips xs]; rfl
theorem lay_trips : ∀ xs : List Item, PyData.canLayAll0 (xs.map tripD) = true
  | [] => rfl
  | x :: xs => by
    rw [List.map_cons]
    show (true && _) = true
    rw [lay_trips xs]; rfl
theorem dep_trips : ∀ xs : List Item, PyData.depthAll (xs.map tripD) ≤ 1
  | [] => Nat.zero_le _
  | x :: xs => by
    rw [List.map_cons]
    show max 1 _ ≤ 1
    have := dep_trips xs
    omega
theorem eqPy_trips (xs : List Item) (k : Bool → Option PV) : eqPyK (.lst (xs.map spanI)) (.lst (xs.map spanI)) k = k true := by
  refine eqPy_self (d := .list (xs.map tripD)) k ?_ ?_
  · simp only [toPy]; rw [toPyL_trips]
  · unfold SeqAt.shaped
    have := dep_trips xs
    rw [show PyData.canLay0 (.list (xs.map tripD)) = true from lay_trips xs, decide_eq_true (by show PyData.depthAll _ + 1 ≤ 64; omega)]; rfl
end Mine
end

/-! Lb6 -/
section
open PySem PySem.W PyProof.Rows
set_option maxRecDepth 100000
namespace Mine
/-- the facts of the two functions that are known by their runs alone -/
structure LawF (φp φc : Fun) : Prop where
  part : ∀ m : Int, ∃ r : List UInt8, r.length ≤ 300 ∧ ∀ k, φp [.int m] [] k = k (.bytes r)
  cmd : ∀ m : Int, ∃ one octs, cmdP one = some octs ∧ octs.length ≤ 100 ∧ ∀ k, φc [.int m] [] k = k (.tup [one, .bytes octs])
variable {φp φc : Fun}
theorem comp_parts (Z : LawF φp φc) : ∀ xs : List Int, ∃ bs : List (List UInt8), bs.flatten.length ≤ 300 * xs.length ∧ ∀ k, compK (fun x kk => φp [x] [] kk) (xs.map .int) k = k (bs.map .bytes)
  | [] => ⟨[], Nat.le_refl _, fun _ => rfl⟩
  | x :: xs => by
    obtain ⟨r, hr, e⟩ := Z.part x
    obtain ⟨bs, hb, e2⟩ := comp_parts Z xs
    refine ⟨r :: bs, by rw [List.flatten_cons, List.length_append, List.length_cons]; omega, fun k => ?_⟩
    show φp [.int x] [] (fun y => compK _ (xs.map .int) fun ys => k (y :: ys)) = _
    rw [e, e2]; rfl
theorem comp_cmds (Z : LawF φp φc) : ∀ xs : List Int, ∃ cs : List (PV × List UInt8), cs.length = xs.length ∧ (∀ c ∈ cs, cmdP c.1 = some c.2 ∧ c.2.length ≤ 100) ∧ ∀ k, compK (fun x kk => φc [x] [] kk) (xs.map .int) k = k (cs.map fun c => .tup [c.1, .bytes c.2])
  | [] => ⟨[], rfl, (fun _ h => nomatch h), fun _ => rfl⟩
  | x :: xs => by
    obtain ⟨one, octs, h1, h2, e⟩ := Z.cmd x
    obtain ⟨cs, hc, hcc, e2⟩ := comp_cmds Z xs
    refine ⟨(one, octs) :: cs, by simp [hc], fun c hm => ?_, fun k => ?_⟩
    · cases hm with
      | head => exact ⟨h1, h2⟩
      | tail _ hm => exact hcc c hm
    · show φc [.int x] [] (fun y => compK _ (xs.map .int) fun ys => k (y :: ys)) = _
      rw [e, e2]; rfl
theorem cut_map {α β : Type} (f : α → β) (l : List α) (a b : Option Int) : cutL (l.map f) a b = (cutL l a b).map f := by
  unfold cutL
  rw [List.length_map, List.map_take, List.map_drop]
theorem cut_len {α : Type} (l : List α) (a b : Option Int) : (cutL l a b).length ≤ l.length := by
  unfold cutL; simp; omega
theorem join_ok {bs : List (List UInt8)} (h : bs.flatten.length ≤ 1000000) (k : K) : bjoinF [] [.lst (bs.map .bytes)] [] k = k (.bytes bs.flatten) := by
  show (match toBs (bs.map .bytes) with | some bs => gate (lenOk bs.flatten.length) (k (.bytes bs.flatten)) | none => none) = _
  rw [toBs_map]
  exact gateT (lenT h)
theorem cut_six {α : Type} (l : List α) : (cutL l (some 1) (some 7)).length ≤ 6 := by
  unfold cutL
  have h1 := clipAt_cast l.length 1
  have h7 := clipAt_cast l.length 7
  rw [if_neg (by decide)] at h1 h7
  rw [List.length_take, List.length_drop]
  show min (clipAt l.length 7 - clipAt l.length 1) _ ≤ 6
  omega
/-- head and code -/
theorem seg01 (Z : LawF φp φc) (zs : List Int) (hz : zs.length ≤ 63) : ∃ (h : Int) (c : List UInt8), c.length ≤ 1800 ∧ ∀ k : KS, exList (exL φp φc) [stL 0, stL 1] [(nm "script", .val (.lst (zs.map .int)))] k = k .next (v2 (zs.map .int) h c []) := by
  obtain ⟨bs, hb, e⟩ := comp_parts Z (cutL zs (some 1) (some 7))
  have hc := cut_len zs (some 1) (some 7)
  have h6 := cut_six zs
  have s1 : ∀ h k, exL φp φc (stL 1) (v1 (zs.map .int) h []) k = k .next (v2 (zs.map .int) h bs.flatten []) := by
    intro h k
    rw [lw1, cut_map, gateT (lenT (by simp; omega)), gateT (lenT (by simp; omega)), e, join_ok (by omega)]
    rfl
  have lo : bs.flatten.length ≤ 1800 := by omega
  cases zs with
  | nil =>
    refine ⟨0, bs.flatten, lo, fun k => (exl_next (σ' := v1 [] 0 []) fun k => ?_).trans (exl_next (s1 0))⟩
    show exL φp φc (stL 0) [(nm "script", .val (.lst []))] k = _
    rw [lw0]; rfl
  | cons z zs =>
    refine ⟨z, bs.flatten, lo, fun k => (exl_next (σ' := v1 ((z :: zs).map .int) z []) fun k => ?_).trans (exl_next (s1 z))⟩
    rw [lw0, gateT (lenT (by simp at hz ⊢; omega))]
    show itemK (.lst (.int z :: zs.map .int)) (.int 0) _ = _
    show gate (lenOk _) _ = _
    rw [gateT (lenT (by simp at hz ⊢; omega))]
    rfl
theorem seg2 (zs : List PV) (h : Int) (c : List UInt8) (hc : c.length < 30000) : ∃ c' : List UInt8, c'.length ≤ c.length ∧ ∀ k, exL φp φc (stL 2) (v2 zs h c []) k = k .next (v2 zs h c' []) := by
  by_cases a : h.fmod 3 = 0
  · by_cases b : c = []
    · subst b
      refine ⟨[], Nat.le_refl _, fun k => ?_⟩
      rw [lw2, decide_eq_true a]; rfl
    · have hp : 0 < c.length := List.length_pos_iff.mpr b
      have f0 := fm_lo (h.fdiv 3) (k := (c.length : Int)) (by omega)
      have f1 := fm_hi (h.fdiv 3) (k := (c.length : Int)) (by omega)
      refine ⟨cutL c none (some ((c.length : Int) - (h.fdiv 3).fmod (c.length : Int))), cut_len _ _ _, fun k => ?_⟩
      rw [lw2, decide_eq_true a, cond_true]
      show gate (lenOk c.length) _ = _
      rw [gateT (lenT (by omega)), show (!c.isEmpty) = true by cases c <;> first | exact absurd rfl b | rfl]
      dsimp only
      rw [cond_true, lenB_ok (by omega), lenB_ok (by omega)]
      show gate (decide (0 < (c.length : Int))) _ = _
      rw [gateT (decide_eq_true (by omega))]
      dsimp only
      rw [show ∀ (a b : Int) (k : K), binK .Sub (.int a) (.int b) k = k (.int (a - b)) from fun _ _ _ => rfl]
      have eo : optI (.int ((c.length : Int) - (h.fdiv 3).fmod (c.length : Int))) = some (some ((c.length : Int) - (h.fdiv 3).fmod (c.length : Int))) := by
        show (bif decide (((c.length : Int) - (h.fdiv 3).fmod (c.length : Int)).natAbs < 1000000000) then _ else _) = _
        rw [decide_eq_true (by omega)]; rfl
      unfold sliceK
      rw [eo]
      show gate (lenOk c.length) _ = _
      rw [gateT (lenT (by omega))]
      rfl
  · refine ⟨c, Nat.le_refl _, fun k => ?_⟩
    rw [lw2, decide_eq_false a]; rfl
theorem go5 (zs : List PV) (h : Int) (c : List UInt8) (k : KS) : ∀ (xs : List Item) (ns : List PV) (o : LO), (∀ x ∈ xs, GoodI x) → ns.length + xs.length ≤ 1000000 →
    ∃ o', forL φp φc 5 (xs.map itemP) (v4 zs h c ns (loV o)) k = k .next (v4 zs h c (ns ++ xs.map nameI) (loV o'))
  | [], ns, o, _, _ => ⟨o, by rw [List.map_nil, List.map_nil, List.append_nil]; exact lw5_nil ..⟩
  | x :: xs, ns, o, g, hl => by
    obtain ⟨w, cc, i, e⟩ := x
    obtain ⟨g1, g2⟩ := g _ (.head _)
    rw [List.length_cons] at hl
    have step : ∃ o', forL φp φc 5 (itemP (w, cc, i, e) :: xs.map itemP) (v4 zs h c ns (loV o)) k = forL φp φc 5 (xs.map itemP) (v4 zs h c (ns ++ [nameI (w, cc, i, e)]) (loV o')) k := by
      cases cc with
      | none =>
        refine ⟨some (.int (w : Nat), .none, .int (i : Nat), .int (e : Nat)), (lw5_none ..).trans ((nmT_ok g1 _).trans ?_)⟩
        rw [gateT (lenT (by omega))]
        show _ = forL φp φc 5 (xs.map itemP) (v4 zs h c (ns ++ [.str (opS w)]) _) k
        rw [opS_nmP]
      | some x =>
        have g2 : x.length < 4000 := g2
        refine ⟨some (.int (w : Nat), .bytes x, .int (i : Nat), .int (e : Nat)), (lw5_some ..).trans ?_⟩
        rw [gateT (lenT (by omega))]
        by_cases b : x = []
        · subst b
          show gate _ _ = _
          rw [gateT (lenT (by omega))]
          show forL φp φc 5 (xs.map itemP) (v4 zs h c (ns ++ [.str (nm "OP_0")]) _) k = forL φp φc 5 (xs.map itemP) (v4 zs h c (ns ++ [.str (cmdS w (some []))]) _) k
          rw [cmdS_nil]
        · rw [show (!x.isEmpty) = true by cases x <;> first | exact absurd rfl b | rfl, cond_true]
          unfold hexT
          rw [gateT (lenT (by omega))]
          show gate (decide ((hexS x).length ≤ 5592405)) _ = _
          have hlen : (hexS x).length = 2 * x.length := by
            show (hexL x).toArray.size = _
            rw [List.size_toArray, hexL_len]
          rw [gateT (decide_eq_true (by omega))]
          dsimp only
          rw [gateT (lenT (by omega))]
          show forL φp φc 5 (xs.map itemP) (v4 zs h c (ns ++ [.str (upS (hexS x))]) _) k = forL φp φc 5 (xs.map itemP) (v4 zs h c (ns ++ [.str (cmdS w (some x))]) _) k
          rw [cmdS_some b]
    obtain ⟨o', e1⟩ := step
    obtain ⟨o'', e2⟩ := go5 zs h c k xs (ns ++ [nameI (w, cc, i, e)]) o' (fun y hy => g y (.tail _ hy)) (by simp; omega)
    refine ⟨o'', ?_⟩
    rw [List.map_cons, e1, e2, List.append_assoc]; rfl
end Mine
end

/-! Lb7 -/
section
open PySem PySem.W PyProof.Rows
set_option maxRecDepth 100000
namespace Mine
variable {φp φc : Fun}
theorem neT (w e : Int) (k : Bool → Option PV) : cmpK .NotEq (.tup [.int w, .int e]) (.tup [.int w, .int e]) k = k false := eqPy_pair w e (fun c => k (!c))
theorem go9 (zs : List PV) (h : Int) (c : List UInt8) (hc : c.length < 4000) (ns ts : List PV) (k : KS) : ∀ (xs : List Item) (o : LO), (∀ x ∈ xs, x.2.2.1 < c.length ∧ rdP c x.2.2.1 = some (x.1, x.2.2.2)) →
    ∃ o', forL φp φc 9 (xs.map itemP) (v6 zs h c ns ts (loV o)) k = k .next (v6 zs h c ns ts (loV o'))
  | [], o, _ => ⟨o, lw9_nil ..⟩
  | x :: xs, o, g => by
    obtain ⟨w, cc, i, e⟩ := x
    obtain ⟨g1, g2⟩ := g _ (.head _)
    have g1 : i < c.length := g1
    have g2 : rdP c i = some (w, e) := g2
    obtain ⟨p, hp⟩ : ∃ p, itemP (w, cc, i, e) = .tup [.int (w : Nat), p, .int (i : Nat), .int (e : Nat)] := by cases cc <;> exact ⟨_, rfl⟩
    obtain ⟨o', e2⟩ := go9 zs h c hc ns ts k xs (some (.int (w : Nat), p, .int (i : Nat), .int (e : Nat))) fun y hy => g y (.tail _ hy)
    refine ⟨o', ?_⟩
    rw [List.map_cons, hp, ← e2]
    refine (lw9_one ..).trans ?_
    show gate (okBI c (i : Int)) _ = _
    rw [gateT (by unfold okBI; rw [decide_eq_true (by omega), decide_eq_true (by omega), decide_eq_true (by omega)]; rfl), Int.toNat_natCast, g2]
    dsimp only
    rw [neT]; rfl
theorem names_strs (c : List UInt8) : (allP c).1.map nameI = ((allP c).1.map fun x => cmdS x.1 x.2.1).map .str := by rw [List.map_map]; rfl
theorem ascii_hex (x : List UInt8) : asciiB (upS (hexS x)) = true := by
  rw [upS_hexS, gL_hexUL]
  show ((gL hexW x).toArray.all fun c => decide (c < 128)) = true
  rw [← Array.all_toList]
  refine List.all_eq_true.mpr fun y hy => ?_
  have := List.all_eq_true.mp (gL_all dig_W x) y hy
  unfold isHx at this
  simp only [Bool.and_eq_true] at this
  exact this.1.1.2
theorem ascii_cmd {x : Item} (g : GoodI x) : asciiB (cmdS x.1 x.2.1) = true := by
  obtain ⟨w, cc, i, e⟩ := x
  obtain ⟨g1, g2⟩ := g
  cases cc with
  | none =>
    show asciiB (opS w) = true
    rw [opS_nmP]
    have g2 : w = 0 ∨ 78 < w := g2
    exact ascii_of_ss (nm_fact g1 (by omega))
  | some x =>
    by_cases b : x = []
    · subst b; show asciiB (cmdS w (some [])) = true; rw [cmdS_nil]; kernel_rfl
    · show asciiB (cmdS w (some x)) = true
      rw [cmdS_some b]; exact ascii_hex x
theorem val7 (zs : List PV) (h : Int) (c : List UInt8) (hc : c.length < 4000) (k : KS) : exL φp φc (stL 7) (v6 zs h c ((allP c).1.map nameI) (tailS c 4000 0) []) k = k .next (v6 zs h c ((allP c).1.map nameI) (tailS c 4000 0) []) := by
  have hn := walk_count c 4000 0
  have hn : (allP c).1.length ≤ c.length - 0 := hn
  have g := walk_good c hc 4000 0
  rw [lw7]
  rw [told_names c]
  cases hb : (allP c).2.2 with
  | true =>
    rw [cond_true, gateT (lenT (by simp; omega)), if_pos rfl, names_strs, show (List.map PV.str ((allP c).1.map fun x => cmdS x.1 x.2.1)) ++ [PV.str (nm "[error]")] = (((allP c).1.map fun x => cmdS x.1 x.2.1) ++ [nm "[error]"]).map .str by simp]
    refine (eqPy_strs _ (fun x hx => ?_) _).trans rfl
    rcases List.mem_append.mp hx with q | q
    · obtain ⟨y, hy, rfl⟩ := List.mem_map.mp q
      exact ascii_cmd (g y hy)
    · simp at q; subst q; kernel_rfl
  | false =>
    rw [cond_false, gateT (lenT (by simp; omega)), if_neg Bool.false_ne_true, names_strs, List.append_nil]
    refine (eqPy_strs _ (fun x hx => ?_) _).trans rfl
    obtain ⟨y, hy, rfl⟩ := List.mem_map.mp hx
    exact ascii_cmd (g y hy)
theorem val9 (zs : List PV) (h : Int) (c : List UInt8) (hc : c.length < 4000) (ns ts : List PV) (k : KS) : ∃ o', exL φp φc (stL 9) (v6 zs h c ns ts []) k = k .next (v6 zs h c ns ts (loV o')) := by
  have hn := walk_count c 4000 0
  have hn : (allP c).1.length ≤ c.length - 0 := hn
  obtain ⟨o', e⟩ := go9 (φp := φp) (φc := φc) zs h c hc ns ts k (allP c).1 none fun x hx => ⟨(walk_at c 4000 0 x hx).1, walk_rd c 4000 0 x hx⟩
  exact ⟨o', by rw [lw9, gateT (lenT (by simp; omega))]; exact e⟩
theorem asF1 (c : List UInt8) (hc : c.length < 4000) (k : K) : asF [.bytes c] [] k = k (.str (toldS c (askP c false))) := gateT (decide_eq_true hc)
theorem asF2 (c : List UInt8) (hc : c.length < 4000) (v : Bool) (k : K) : asF [.bytes c] [(nm "attempt_sighash_decode", .bool v)] k = k (.str (toldS c (askP c v))) := gateT (by rw [decide_eq_true rfl, decide_eq_true hc]; rfl)
theorem saF1 (c : List UInt8) (hc : c.length < 4000) (v : Bool) (k : K) : saF [.bytes c, .bool v] [] k = k (.str (toldS c (askP c v))) := gateT (decide_eq_true hc)
theorem neS (a : Str) (k : Bool → Option PV) : cmpK .NotEq (.str a) (.str a) k = k false := by
  show k (!decide (a = a)) = _
  rw [decide_eq_true rfl]; rfl
theorem neB (a : List UInt8) (k : Bool → Option PV) : cmpK .NotEq (.bytes a) (.bytes a) k = k false := by
  show k (!decide (a = a)) = _
  rw [decide_eq_true rfl]; rfl
theorem val10 (zs : List PV) (h : Int) (c : List UInt8) (hc : c.length < 4000) (ns ts : List PV) (k : KS) : exL φp φc (stL 10) (v6 zs h c ns ts []) k = k .next (v6 zs h c ns ts []) := by
  have hs := walk_stop c 4000 0 (by omega)
  have hs : rdP c (allP c).2.1 = none := hs
  have hb : (allP c).2.1 ≤ 100000 := by
    have : ∀ m i, i ≤ c.length → (walk c m i).2.1 ≤ c.length := by
      intro m
      induction m with
      | zero => intro i hi; exact hi
      | succ m ih =>
        intro i hi
        unfold walk
        split
        · rename_i h1
          split
          · exact hi
          · rename_i w cc e ho; exact ih e (opAt_bound h1 ho).2
        · exact hi
    have := this 4000 0 (Nat.zero_le _)
    show (walk c 4000 0).2.1 ≤ _
    omega
  rw [lw10]
  dsimp only
  show gate (okBI c ((allP c).2.1 : Int)) _ = _
  rw [gateT (by unfold okBI; rw [decide_eq_true (by omega), decide_eq_true (by omega), decide_eq_true (by omega)]; rfl), Int.toNat_natCast, hs]
  dsimp only
  rw [show ∀ k, cmpK .IsNot .none .none k = k false from fun _ => rfl, cond_false, asF1 c hc, saF1 c hc, neS]; rfl
theorem val11 (zs : List PV) (h : Int) (c : List UInt8) (hc : c.length < 4000) (ns ts : List PV) (k : KS) : exL φp φc (stL 11) (v6 zs h c ns ts []) k = k .next (v6 zs h c ns ts []) := by
  rw [lw11, asF2 c hc, saF1 c hc, neS]; rfl
theorem comp_gen {f : PV → K → Option PV} {α β : Type} (p : α → PV) (g : α → PV) : ∀ (l : List α) (k : List PV → Option PV), (∀ x ∈ l, ∀ kk, f (p x) kk = kk (g x)) → compK f (l.map p) k = k (l.map g)
  | [], k, _ => rfl
  | x :: l, k, h => by
    show f (p x) (fun y => compK f (l.map p) fun ys => k (y :: ys)) = _
    rw [h x (.head _), comp_gen (β := β) p g l _ fun y hy => h y (.tail _ hy)]
    rfl
theorem val12 (zs : List PV) (h : Int) (c : List UInt8) (hc : c.length < 4000) (ns ts : List PV) (k : KS) : exL φp φc (stL 12) (v6 zs h c ns ts []) k = k .next (v12 zs h c ns ts (.bytes (encL (allP c).1)) []) := by
  have hn := walk_count c 4000 0
  have hn : (allP c).1.length ≤ c.length - 0 := hn
  have hg := walk_good c hc 4000 0
  have hr := (round_trip c hc).1
  rw [lw12, gateT (lenT (by simp; omega)), comp_gen (β := Unit) itemP (fun x => PV.bytes (encI x.1 x.2.1)) (allP c).1 _ fun x hx kk => ?_, show (allP c).1.map (fun x => PV.bytes (encI x.1 x.2.1)) = ((allP c).1.map fun x => encI x.1 x.2.1).map .bytes by rw [List.map_map]; rfl, join_ok (by show (encL (allP c).1).length ≤ _; omega)]
  · rfl
  · obtain ⟨w, cc, i, e⟩ := x
    obtain ⟨g1, g2⟩ := hg _ hx
    have g1 : w < 256 := g1
    cases cc with
    | none => exact (lw12_none ..).trans ((b1T_ok (by omega) (by omega)).trans (by rw [u8_nat]; rfl))
    | some x =>
      have g2 : x.length < 4000 := g2
      exact (lw12_some ..).trans (gateT (decide_eq_true (by omega)))
theorem val13 (zs : List PV) (h : Int) (c : List UInt8) (hc : c.length < 4000) (ts : List PV) (k : KS) : exL φp φc (stL 13) (v12 zs h c ((allP c).1.map nameI) ts (.bytes (encL (allP c).1)) []) k = k .next (v13 zs h c ((allP c).1.map nameI) ts (.bytes (encL (allP c).1)) (.bytes (encL (allP c).1)) []) := by
  have hn := walk_count c 4000 0
  have hn : (allP c).1.length ≤ c.length - 0 := hn
  have hr := (round_trip c hc).1
  rw [lw13]
  show (match opts (((allP c).1.map nameI).map cmdP) with | some bs => gate (lenOk ((allP c).1.map nameI).length && lenOk bs.flatten.length) _ | none => none) = _
  rw [names_cmd c hc, opts_map]
  dsimp only
  rw [gateT (by rw [lenT (show ((allP c).1.map nameI).length ≤ 1000000 by simp; omega), lenT (show (List.map (fun x => encI x.1 x.2.1) (allP c).1).flatten.length ≤ 1000000 from Nat.le_trans (Nat.le_of_lt hr) (by decide))]; rfl)]
  rfl
end Mine
end

/-! Lb4 -/
section
open PySem
set_option maxRecDepth 100000
namespace Mine
theorem lw19 (φp φc : Fun) (l : List PV) (h : Int) (k : KS) : exL φp φc (stL 19) (v1 l h []) k = k .next (v1 l h [(nm "named", .val (.str (nm "OP_NOP5"))), (nm "word", .val (.int 180))]) := by kernel_rfl
end Mine
end

/-! Lb8 -/
section
open PySem PySem.W PyProof.Rows
set_option maxRecDepth 100000
namespace Mine
variable {φp φc : Fun}
theorem seF_some {ps : List PV} {bs : List (List UInt8)} (h : ps.map cmdP = bs.map some) (hn : ps.length ≤ 1000000) (hl : bs.flatten.length ≤ 1000000) (k : K) : seF [.lst ps] [] k = k (.bytes bs.flatten) := by
  show (match opts (ps.map cmdP) with | some bs => gate (lenOk ps.length && lenOk bs.flatten.length) (k (.bytes bs.flatten)) | none => none) = _
  rw [h, opts_map]
  exact gateT (by rw [lenT hn, lenT hl]; rfl)
theorem seF_one {p : PV} {b : List UInt8} (h : cmdP p = some b) (hl : b.length ≤ 1000000) (k : K) : seF [.lst [p]] [] k = k (.bytes b) := by
  rw [seF_some (bs := [b]) (by rw [List.map_cons, h]; rfl) (by simp) (by simpa using hl)]
  simp
theorem flat_le : ∀ (cs : List (PV × List UInt8)), (∀ c ∈ cs, c.2.length ≤ 100) → (cs.map (·.2)).flatten.length ≤ 100 * cs.length
  | [], _ => Nat.le_refl _
  | c :: cs, h => by
    have := flat_le cs fun x hx => h x (.tail _ hx)
    have := h c (.head _)
    rw [List.map_cons, List.flatten_cons, List.length_append, List.length_cons]; omega
theorem val15 (Z : LawF φp φc) (zs : List Int) (hz : zs.length ≤ 63) (h : Int) : ∃ cs : List (PV × List UInt8), cs.length ≤ 63 ∧ (∀ c ∈ cs, cmdP c.1 = some c.2 ∧ c.2.length ≤ 100) ∧ ∀ k, exL φp φc (stL 15) (v1 (zs.map .int) h []) k = k .next (v1 (zs.map .int) h [(nm "commands", .val (.lst (cs.map fun c => .tup [c.1, .bytes c.2])))]) := by
  obtain ⟨cs, h1, h2, e⟩ := comp_cmds Z (cutL zs (some 1) (some 7))
  have hc := cut_len zs (some 1) (some 7)
  refine ⟨cs, by omega, h2, fun k => ?_⟩
  rw [lw15, cut_map, gateT (lenT (by simp; omega)), gateT (lenT (by simp; omega)), e]
theorem val16 (zs : List PV) (h : Int) (cs : List (PV × List UInt8)) (hl : cs.length ≤ 63) (hcs : ∀ c ∈ cs, cmdP c.1 = some c.2 ∧ c.2.length ≤ 100) (k : KS) : exL φp φc (stL 16) (v1 zs h [(nm "commands", .val (.lst (cs.map fun c => .tup [c.1, .bytes c.2])))]) k = k .next (v1 zs h [(nm "commands", .val (.lst (cs.map fun c => .tup [c.1, .bytes c.2])))]) := by
  have hf := flat_le cs fun c hc => (hcs c hc).2
  rw [lw16]
  dsimp only
  rw [gateT (lenT (by simp; omega)), comp_gen (β := Unit) (fun c : PV × List UInt8 => PV.tup [c.1, .bytes c.2]) (fun c => c.1) cs _ fun c _ kk => lw16a ..]
  rw [seF_some (bs := cs.map (·.2)) (by rw [List.map_map, List.map_map]; exact List.map_congr_left fun c hc => (hcs c hc).1) (by simp; omega) (by omega)]
  try dsimp only
  rw [gateT (lenT (by simp; omega)), comp_gen (β := Unit) (fun c : PV × List UInt8 => PV.tup [c.1, .bytes c.2]) (fun c => .bytes c.2) cs _ fun c _ kk => lw16b ..]
  try dsimp only
  rw [show cs.map (fun c => PV.bytes c.2) = (cs.map (·.2)).map .bytes by rw [List.map_map]; rfl, join_ok (by omega)]
  try dsimp only
  rw [neB]; rfl
theorem pi_small : ((List.range 18).all fun j => decide (ssP (piP ((j : Int) - 1)) = some (if j = 1 then [0] else [(79 + j).toUInt8]))) = true := by kernel_rfl
theorem enc_ne : ((List.range 400).all fun j => decide ((j : Int) - 200 = 0) || !(encP ((j : Int) - 200)).isEmpty) = true := by kernel_rfl
/-- what is due for a number -/
def dueP (v : Int) : List UInt8 := if v = -1 ∨ (1 ≤ v ∧ v ≤ 16) then [u8 (80 + v)] else laidB (encP v)
theorem pi_due (v : Int) (h0 : -200 ≤ v) (h1 : v < 200) : ssP (piP v) = some (dueP v) := by
  by_cases c : -1 ≤ v ∧ v ≤ 16
  · obtain ⟨j, hj, hj2⟩ : ∃ j : Nat, v = (j : Int) - 1 ∧ j < 18 := ⟨(v + 1).toNat, by omega, by omega⟩
    have := of_decide_eq_true (List.all_eq_true.mp pi_small j (List.mem_range.mpr hj2))
    rw [hj, this]
    by_cases z : j = 1
    · subst z; kernel_rfl
    · rw [if_neg z]
      unfold dueP
      rw [if_pos (by omega), show (80 : Int) + ((j : Int) - 1) = ((79 + j : Nat) : Int) by omega, u8_nat]
  · have e1 : piP v = hexS (encP v) := if_neg (by omega)
    have e2 : dueP v = laidB (encP v) := if_neg (by omega)
    have hl := encP_len (z := v) (by omega) (by omega)
    rw [e1, e2]
    refine ss_hexS ?_ (by omega)
    intro z
    have := List.all_eq_true.mp enc_ne (v + 200).toNat (List.mem_range.mpr (by omega))
    rw [show (((v + 200).toNat : Int) - 200) = v by omega, z, decide_eq_false (by omega)] at this
    cases this
theorem go17 (zs : List PV) (h : Int) (k : KS) : ∀ (xs : List Int) (o : LP3), ∃ o', forL φp φc 17 (xs.map .int) (v1 zs h (loP o)) k = k .next (v1 zs h (loP o'))
  | [], o => ⟨o, lw17_nil ..⟩
  | m :: xs, o => by
    have f0 := fm_lo m (k := 400) (by decide)
    have f1 := fm_hi m (k := 400) (by decide)
    generalize hv : m.fmod 400 - 200 = v
    have hd := pi_due v (by omega) (by omega)
    obtain ⟨o', e2⟩ := go17 zs h k xs (some (.int m, .int v, .bytes (dueP v)))
    refine ⟨o', ?_⟩
    rw [List.map_cons, ← e2]
    refine (lw17_one ..).trans ?_
    have hl := encP_len (z := v) (by omega) (by omega)
    have hdl : (dueP v).length ≤ 1000000 := by
      unfold dueP
      split
      · simp
      · have := laidB_len (encP v); omega
    have go : ∀ kk : Bool → Option PV, (piF [.int v] [] fun p => seF [.lst [p]] [] fun q => cmpK .NotEq q (.bytes (dueP v)) kk) = kk false := by
      intro kk
      show gate _ _ = _
      rw [gateT (by rw [decide_eq_true (show -9223372036854775808 ≤ v by omega), decide_eq_true (show v ≤ 9223372036854775807 by omega)]; rfl)]
      dsimp only
      rw [seF_one ((cmdP_str _).trans hd) hdl, neB]
    dsimp only
    rw [hv]
    have big : ∀ kk : K, (¬ (v = -1 ∨ (1 ≤ v ∧ v ≤ 16))) → (loF [.int v] [] fun x => ldF [x] [] kk) = kk (.bytes (dueP v)) := by
      intro kk c
      show gate _ _ = _
      rw [gateT (decide_eq_true (by have : (256 : Nat) ^ 9 = 4722366482869645213696 := by decide
                                    omega))]
      show gate _ _ = _
      rw [gateT (decide_eq_true (by omega)), show dueP v = laidB (encP v) from if_neg c]
    by_cases c1 : v = -1
    · rw [decide_eq_true c1, cond_true, b1T_ok (by omega) (by omega), show [u8 (80 + v)] = dueP v from (if_pos (.inl c1)).symm]
      exact (go _).trans rfl
    · rw [decide_eq_false c1, cond_false]
      by_cases c2 : 1 ≤ v
      · rw [decide_eq_true c2, cond_true]
        by_cases c3 : v ≤ 16
        · rw [decide_eq_true c3, cond_true, b1T_ok (by omega) (by omega), show [u8 (80 + v)] = dueP v from (if_pos (.inr ⟨c2, c3⟩)).symm]
          exact (go _).trans rfl
        · rw [decide_eq_false c3, cond_false, big _ (by omega)]
          exact (go _).trans rfl
      · rw [decide_eq_false c2, cond_false, big _ (by omega)]
        exact (go _).trans rfl
theorem val17 (zs : List Int) (hz : zs.length ≤ 63) (h : Int) (k : KS) : ∃ o', exL φp φc (stL 17) (v1 (zs.map .int) h []) k = k .next (v1 (zs.map .int) h (loP o')) := by
  have hc := cut_len zs (some 1) (some 4)
  obtain ⟨o', e⟩ := go17 (φp := φp) (φc := φc) (zs.map .int) h k (cutL zs (some 1) (some 4)) none
  exact ⟨o', by rw [lw17, cut_map, gateT (lenT (by simp; omega)), gateT (lenT (by simp; omega))]; exact e⟩
theorem go18 (zs : List PV) (h : Int) (k : KS) : ∀ (xs : List Int) (o : Option PV), (∀ v ∈ xs, -9223372036854775808 ≤ v ∧ v ≤ 9223372036854775807) → ∃ o', forL φp φc 18 (xs.map .int) (v1 zs h (oV o)) k = k .next (v1 zs h (oV o'))
  | [], o, _ => ⟨o, lw18_nil ..⟩
  | v :: xs, o, g => by
    obtain ⟨g1, g2⟩ := g v (.head _)
    obtain ⟨o', e2⟩ := go18 zs h k xs (some (.int v)) fun y hy => g y (.tail _ hy)
    refine ⟨o', ?_⟩
    rw [List.map_cons, ← e2]
    refine (lw18_one ..).trans ?_
    have hl := encP_len g1 g2
    have h3 := laidB_len (encP v)
    rw [seF_one (p := .int v) (b := laidB (encP v)) (if_pos ⟨g1, g2⟩) (by omega)]
    show gate _ _ = _
    rw [gateT (decide_eq_true (by have : (256 : Nat) ^ 9 = 4722366482869645213696 := by decide
                                  omega))]
    show gate _ _ = _
    rw [gateT (decide_eq_true (by omega))]
    dsimp only
    rw [neB]; rfl
theorem val18 (zs : List PV) (h : Int) (k : KS) : ∃ o', exL φp φc (stL 18) (v1 zs h []) k = k .next (v1 zs h (oV o')) := by
  have a := fm_lo h (k := 4611686018427387904) (by decide)
  have b := fm_hi h (k := 4611686018427387904) (by decide)
  have c := fm_lo (h.fdiv 3) (k := 4611686018427387904) (by decide)
  have d := fm_hi (h.fdiv 3) (k := 4611686018427387904) (by decide)
  obtain ⟨o', e⟩ := go18 (φp := φp) (φc := φc) zs h k [9223372036854775807, -9223372036854775808, h.fmod 4611686018427387904, 0 - (h.fdiv 3).fmod 4611686018427387904] none fun v hv => by
    simp only [List.mem_cons, List.not_mem_nil, or_false] at hv
    rcases hv with rfl | rfl | rfl | rfl <;> omega
  refine ⟨o', ?_⟩
  rw [lw18, show (2 : Int) ^ (63 : Int).toNat = 9223372036854775808 by decide, show (2 : Int) ^ (62 : Int).toNat = 4611686018427387904 by decide]
  exact e
end Mine
end

/-! Lb9 -/
section
open PySem PySem.W PyProof.Rows PySem.Calls
set_option maxRecDepth 100000
namespace Mine
variable {prog : Program} {w : World} {h₁ : Heap} {n : Nat} {K : Frag} {T : Tbl} {s s' s₀ : Shared} {H H₀ H' : PHeap} {env : PySem.Env} {Ar : Around} {E : Value → Shared → Prop} {Mu : Addr → Prop} {σ σ' : Vars} {sc : Scope}
theorem law_facts : LawF partF lcmF where
  part := fun m => by
    obtain ⟨r, hr, e⟩ := part_k part_facts m
    refine ⟨r, hr, fun k => ?_⟩
    show (match runF partT "_law_part" [.int m] with | some p => k p | none => none) = _
    rw [show runF partT "_law_part" [.int m] = some (.bytes r) from e]
  cmd := fun m => by
    obtain ⟨one, octs, h1, h2, e⟩ := cmd_k cmd_facts m
    refine ⟨one, octs, h1, h2, fun k => ?_⟩
    show (match runF cmdT "_law_command" [.int m] with | some p => k p | none => none) = _
    rw [show runF cmdT "_law_command" [.int m] = some (.tup [one, .bytes octs]) from e]
abbrev TLaw : Tbl := LT partF lcmF
theorem law_tbl (A : AllK w K) (G : Gnd K h₁) (B : ∀ n, TblOk prog w h₁ n base) : TblOk prog w h₁ 5 TLaw :=
  tbl_of (B 5) (l := [("_law_part", partF), ("_law_all", laF), ("read_op_code", rdF), ("script_to_asm", asF), ("_law_said", saF), ("serialize", seF), ("_law_command", lcmF), ("push_int", piF), ("_law_laid", ldF), ("_law_octets", loF)]) fun p hp => by
    simp only [List.mem_cons, List.not_mem_nil, or_false] at hp
    rcases hp with h | h | h | h | h | h | h | h | h | h <;> subst h
    · exact (e_law_part A G B).more (by decide)
    · exact (e_law_all A G B).more (by decide)
    · exact (e_read_op_code A G B).more (by decide)
    · exact (e_asm A G B).more (by decide)
    · exact (e_law_said A G B (e_law_kinds A G B)).more (by decide)
    · exact e_serialize A G B
    · exact (e_law_command A G B).more (by decide)
    · exact (e_push_int A G B).more (by decide)
    · exact (e_law_laid A G B).more (by decide)
    · exact (e_law_octets A G B).more (by decide)
theorem execs_appendC {M : Model} {rest : List Stmt} {Q : Flow → Shared → Prop} (ss : List Stmt) (s : Shared) (h : wpC M Ar (execs ss env) (fun f s' => match f with | .next => wpC M Ar (execs rest env) Q E s' | f => Q f s') E s) : wpC M Ar (execs (ss ++ rest) env) Q E s := by
  intro Γ p a b c
  have h1 := h Γ p a b c
  clear h
  induction ss generalizing p s with
  | nil => exact (show wpC M Ar (execs rest env) Q E s by rw [execs_nil] at h1; exact h1) Γ p a b c
  | cons st ss ih =>
    show Sem.wp M Γ (execs (st :: (ss ++ rest)) env) _ _ p s
    rw [execs_cons, Sem.wp_bind'] at h1 ⊢
    refine Sem.wp_mono M Γ _ (fun f p' s' h' => ?_) (fun _ _ _ h' => h') _ _ h1
    cases f with
    | next => exact ih s' p' h'
    | _ => exact h'
theorem If_C {M : Model} {test : Expr} {body orelse : List Stmt} {pos : Pos} {Q : Flow → Shared → Prop}
    (h : wpC M Ar (isTrue test env (eval test env)) (fun b s₂ => if b then wpC M Ar (execs body env) Q E s₂ else wpC M Ar (execs orelse env) Q E s₂) E s) : wpC M Ar (exec (.If test body orelse pos) env) Q E s := by
  rw [exec_If]
  refine wpC_bindA (wpAny_standAt (wpC_bind (wpC_mono h (fun b s₂ hb => ?_) fun _ _ x => x)))
  cases b <;> exact hb
theorem test_Compare1C {M : Model} {l r : Expr} {op : CmpOp} {pos : Pos} {whole : Sem Value} {Q : Bool → Shared → Prop}
    (h : wpC M Ar (eval l env) (fun a s₁ => wpAny M Ar (eval r env) (fun b s₂ => wpAny M Ar (compareOp op a b) (fun c s₃ => wpAny M Ar (truthy c) Q E s₃) E s₂) E s₁) E s)
    (hm : behindInMarks op r = false) : wpC M Ar (isTrue (.Compare l [op] [r] pos) env whole) Q E s := by
  rw [isTrue_Compare1, markedBehindIn_of_false hm]
  refine wpC_bindB (wpC_mono h (fun a s₁ h₁ => ?_) fun _ _ x => x)
  refine wpAny_bind (wpAny_holding (wpAny_mono h₁ (fun b s₂ h₂ => ?_) fun _ _ x => x))
  exact wpAny_bind (wpAny_standAt (wpAny_bind (wpAny_operate' (wpAny_mono h₂ (fun c s₃ h₃ => wpAny_holding h₃) fun _ _ x => x))))
end Mine
end

/-! Lb10 -/
section
open PySem PySem.W PyProof.Rows PySem.Calls
set_option maxRecDepth 100000
namespace Mine
def cmpL : Stmt → Expr
  | .If (.Compare e _ _ _) _ _ _ => e
  | _ => default
def or1 : Stmt → Expr
  | .If (.BoolOp _ (e :: _) _) _ _ _ => e
  | _ => default
theorem lw14a (φp φc : Fun) (l : List PV) (h : Int) (c s : List UInt8) (ns ts : List PV) (k : Bool → Option PV) : (evN (LT φp φc) 16).tr lsc (or1 (stL 14)) (rdA (v13 l h c ns ts (.bytes s) (.bytes s) [])) k = cmpK .NotEq (.bytes s) (.bytes s) k := by kernel_rfl
theorem lw14n (φp φc : Fun) (l : List PV) (h : Int) (c s : List UInt8) (ns ts : List PV) (p : Pos) (k : K) : (evN (LT φp φc) 16).ev lsc (.Name (nm "names") p) (rdA (v13 l h c ns ts (.bytes s) (.bytes s) [])) k = k (.lst ns) := by kernel_rfl
theorem st6 : ∃ p1 p2 p3 p4 p5, stL 6 = .Assign [.Name (nm "told") p1] (.Call (.Name (nm "parse") p2) [.Name (nm "code") p3] [] p4) p5 := ⟨_, _, _, _, _, by with_unfolding_all rfl⟩
theorem st8 : ∃ p1 p2 p3 p4 p5 p6 B p7, stL 8 = .If (.Compare (.Call (.Name (nm "list") p1) [.Call (.Name (nm "op_code_spans") p2) [.Name (nm "code") p3] [] p4] [] p5) [.NotEq] [lc8] p6) B [] p7 := ⟨_, _, _, _, _, _, _, _, by with_unfolding_all rfl⟩
theorem st14 : ∃ p1 p2 p3 p4 p5 p6 B p7, stL 14 = .If (.BoolOp .Or [or1 (stL 14), .Compare (.Call (.Name (nm "parse") p1) [.Name (nm "again") p2] [] p3) [.NotEq] [.Name (nm "names") p4] p5] p6) B [] p7 := ⟨_, _, _, _, _, _, _, _, by with_unfolding_all rfl⟩
end Mine
end

/-! Lb11 -/
section
open PySem PySem.W PyProof.Rows PySem.Calls
set_option maxRecDepth 100000
namespace Mine
variable {prog : Program} {w : World} {h₁ : Heap} {n : Nat} {K : Frag} {T : Tbl} {s s' s₀ : Shared} {H H₀ H' : PHeap} {env : PySem.Env} {A : Around} {E : Value → Shared → Prop} {Mu : Addr → Prop} {σ σ' : Vars} {sc : Scope}
theorem FB.cut (b : FB prog w h₁ Mu sc env σ s₀ H₀ s H) (h : ∀ x q, lookV σ' x = some q → lookV σ x = some q) : FB prog w h₁ Mu sc env σ' s₀ H₀ s H :=
  ⟨⟨b.base₀, b.mid, b.fm, ⟨fun x p e => b.vars.val x p (h _ _ e), fun x l e => b.vars.own x l (h _ _ e), fun x y l m a e f => b.vars.apart x y l m a (h _ _ e) (h _ _ f)⟩⟩, b.fresh⟩
theorem lookV_app : ∀ {σ r : Vars} {x : Str} {q : Bnd}, lookV σ x = some q → lookV (σ ++ r) x = some q
  | [], _, _, _, h => by cases h
  | (y, b) :: σ, r, x, q, h => by
    show (bif decide (y = x) then some b else lookV (σ ++ r) x) = some q
    unfold lookV at h
    cases c : decide (y = x) with
    | true => rw [c] at h; exact h
    | false => rw [c] at h; exact lookV_app h
theorem tg_ok (A₀ : AllK w K) (G : Gnd K h₁) (B : ∀ n, TblOk prog w h₁ n base) (n : Nat) : TblOk prog w h₁ (n + 1) TG := tbl_of (B _) (l := [("read_op_code", rdF)]) fun p hp => by
  simp only [List.mem_cons, List.not_mem_nil, or_false] at hp; subst hp; exact (e_read_op_code A₀ G B).more (by omega)
theorem keepN (A₀ : AllK w K) (G : Gnd K h₁) {f : String} (hf : f ∈ defN) : ∀ h, Keep h₁ h → KeeperOk h (.ref (globK K (nm f))) := fun h k => by
  obtain ⟨o, ho, hod⟩ := (fnAtD A₀ hf).get G.X
  exact keeper_fn (k _ _ ho) hod
theorem spans_trips (c : List UInt8) (hc : c.length < 4000) : (spans c (c.length + 1) 0).map (fun x => PV.tup (spV x)) = (allP c).1.map spanI := spans_walk c (c.length + 1) 4000 0 (by omega) (by omega)
theorem lc8_val (φp φc : Fun) (zs : List PV) (h : Int) (c : List UInt8) (hc : c.length < 4000) (ns ts : List PV) (k : PV → Option PV) : (evN (LT φp φc) 16).ev lsc lc8 (rdV (v6 zs h c ns ts [])) k = k (.lst ((allP c).1.map spanI)) := by
  have hn := walk_count c 4000 0
  have hn : (allP c).1.length ≤ c.length - 0 := hn
  rw [lw8, gateT (lenT (by simp; omega)), comp_gen (β := Unit) itemP spanI (allP c).1 _ fun x hx kk => ?_]
  obtain ⟨w, cc, i, e⟩ := x
  cases cc with
  | none => exact lw8_one ..
  | some y => exact lw8_one ..
/-- the spans are as the law's own -/
theorem walk8 (A₀ : AllK w K) (G : Gnd K h₁) (B : ∀ n, TblOk prog w h₁ n base) (TO : TblOk prog w h₁ (n + 5) (LT φp φc)) (ok : EnvOk lsc env) (R : Room (n + 5) A) {zs : List PV} {h : Int} {c : List UInt8} (hc : c.length < 4000) {ns ts : List PV} {Q : Flow → Shared → Prop}
    (b : FB prog w h₁ Mu lsc env (v6 zs h c ns ts []) s₀ H₀ s H) (N : ∀ s' H', FB prog w h₁ Mu lsc env (v6 zs h c ns ts []) s₀ H₀ s' H' → Q .next s') : wpAny (model prog w) A (exec (stL 8) env) Q E s := by
  obtain ⟨p1, p2, p3, p4, p5, p6, Bd, p7, e8⟩ := st8
  rw [e8]
  obtain ⟨v, hv, hr⟩ := b.read (y := nm "code") (q := .bytes c) rfl
  have F := fnAtD A₀ (f := "op_code_spans") (by decide)
  refine wpAny_If (wpAny_isTrue_Compare1 ?_ rfl)
  refine wpAny_Call_Name_kw (name_glob ok (by kernel_rfl) (by unfold nameOk; decide) ((globB A₀ G (x := "list") (v := .type "list") (by simp [blt])).keeps b.base.keep) ?_)
  refine callWith_of (P := fun _ => True) rfl (fun h _ => keeper_plain rfl h _) (Calls.evalArgs_plain (Calls.spliced_cons ?_))
  refine wpAny_Call_Name_kw (name_glob ok (by kernel_rfl) (by unfold nameOk; decide) ((globD A₀ G (f := "op_code_spans") (by decide)).keeps b.base.keep) ?_)
  refine callWith_of (P := Keep h₁) rfl (fun h k => keepN A₀ G (by decide) h k _) (Calls.evalArgs_plain (Calls.spliced_cons (name_read ok.kind hv (Calls.spliced_nil ⟨b.base.keep, ?_⟩))))
  refine spans_call (n := n + 1) G.X G.lim F (dflD A₀ (by decide)).1 (dflD A₀ (by decide)).2 simple_op_code_spans (tg_ok A₀ G B n) R b.base hr (by omega) fun a s₁ M => ?_
  refine Calls.spliced_nil ⟨trivial, spans_list G.lim (R.less (by omega)) M (by omega) fun L s₂ H₂ af rp => ?_⟩
  have b₂ := b.after af
  rw [spans_trips c hc] at rp
  refine eval_step (evN_sound TO 16 lsc env _ ok).1 R (P := fun p => p = .lst ((allP c).1.map spanI)) (fun k hk => (lc8_val φp φc zs h c hc ns ts k).trans (hk _ rfl)) b₂.good fun u p s₃ H₃ af₃ hu hp => ?_
  subst hp
  have b₃ := b₂.after af₃
  refine cmpK_sound (n := n) (r := .none) (k := fun c => if c then none else some .none) af₃.sub (R.less (by omega)) (rp.mono af₃.grow) hu ?_ fun c t e => ?_
  · show (eqPyK _ _ fun c => if (!c) = true then none else some .none) = _
    exact (eqPy_trips _ _).trans rfl
  · cases c with
    | true => cases e
    | false =>
      refine wpAny_of_eq (a := false) rfl ?_
      rw [if_neg Bool.false_ne_true]
      exact wpAny_execs_nil (N _ _ (b₃.forget (.upd _ _ _) (.refl _)))
end Mine
end

/-! Lb12 -/
section
open PySem PySem.W PyProof.Rows PySem.Calls
set_option maxRecDepth 100000
namespace Mine
variable {prog : Program} {w : World} {h₁ : Heap} {n : Nat} {K : Frag} {T : Tbl} {s s' s₀ : Shared} {H H₀ H' : PHeap} {env : PySem.Env} {A : Around} {E : Value → Shared → Prop} {Mu : Addr → Prop} {σ σ' : Vars} {sc : Scope} {φp φc : Fun}
theorem isTrue_orC {M : Model} {x : Expr} {rest : List Expr} {pos : Pos} {whole : Sem Value} {Q : Bool → Shared → Prop}
    (h : wpC M A (isTrue x env (eval x env)) (fun c s' => if c then Q true s' else wpC M A (isTrue (.BoolOp .Or rest pos) env whole) Q E s') E s) :
    wpC M A (isTrue (.BoolOp .Or (x :: rest) pos) env whole) Q E s := by
  show wpC M A (do
    match BoolOp.Or, ← isTrue x env (eval x env) with
    | .And, false => pure false
    | .Or, true => pure true
    | _, _ => allTrue .Or rest env) Q E s
  refine wpC_bind (wpC_mono h (fun c s' h' => ?_) fun _ _ x => x)
  cases c with
  | false => exact h'
  | true => exact wpC_pure h'
/-- told = parse(code) -/
theorem walk6 (A₀ : AllK w K) (G : Gnd K h₁) (B : ∀ n, TblOk prog w h₁ n base) (ok : EnvOk lsc env) (R : Room (n + 5) A) {zs : List PV} {h : Int} {c : List UInt8} (hc : c.length < 4000) {ns : List PV} {Q : Flow → Shared → Prop}
    (b : FB prog w h₁ Mu lsc env (v4 zs h c ns []) s₀ H₀ s H) (N : ∀ s' H', FB prog w h₁ Mu lsc env (v6 zs h c ns (tailS c 4000 0) []) s₀ H₀ s' H' → Q .next s') : wpC (model prog w) A (exec (stL 6) env) Q E s := by
  obtain ⟨p1, p2, p3, p4, p5, e6⟩ := st6
  rw [e6]
  obtain ⟨v, hv, hr⟩ := b.read (y := nm "code") (q := .bytes c) rfl
  refine Assign_NameC (Call_NameC (name_glob ok (by kernel_rfl) (by unfold nameOk; decide) ((globD A₀ G (f := "parse") (by decide)).keeps b.base.keep) ?_)) (swaps_plain rfl _ _)
  refine callWith_ofC (P := Keep h₁) rfl (fun h k => keepN A₀ G (by decide) h k _) (Calls.evalArgs_plain (Calls.spliced_cons (name_read ok.kind hv (Calls.spliced_nil ⟨b.base.keep, ?_⟩))))
  refine parse_ok A₀ G B R b.base hr hc fun u s₁ H₁ a hu => ?_
  refine (b.after a).put ok (by kernel_rfl) hu fun s₂ b₂ _ => N s₂ H₁ ?_
  have e : putV (v4 zs h c ns []) (nm "told") (.val (.lst (tailS c 4000 0))) = v6 zs h c ns (tailS c 4000 0) [] := by kernel_rfl
  rw [← e]
  exact b₂
theorem walk14 (A₀ : AllK w K) (G : Gnd K h₁) (B : ∀ n, TblOk prog w h₁ n base) (TO : TblOk prog w h₁ (n + 5) (LT φp φc)) (ok : EnvOk lsc env) (R : Room (n + 5) A) {zs : List PV} {h : Int} {c : List UInt8} (hc : c.length < 4000) {ts : List PV} {Q : Flow → Shared → Prop}
    (b : FB prog w h₁ Mu lsc env (v13 zs h c ((allP c).1.map nameI) ts (.bytes (encL (allP c).1)) (.bytes (encL (allP c).1)) []) s₀ H₀ s H)
    (N : ∀ s' H', FB prog w h₁ Mu lsc env (v13 zs h c ((allP c).1.map nameI) ts (.bytes (encL (allP c).1)) (.bytes (encL (allP c).1)) []) s₀ H₀ s' H' → Q .next s') : wpC (model prog w) A (exec (stL 14) env) Q E s := by
  obtain ⟨p1, p2, p3, p4, p5, p6, Bd, p7, e14⟩ := st14
  obtain ⟨hl, hn⟩ := round_trip c hc
  rw [e14]
  have EV := evN_sound TO 16 lsc env
  refine If_C (isTrue_orC (wpC_of (test_step' (EV _ ok).2 R (P := fun x => x = false) (fun k hk => ?_) b.opens fun x s₁ H₁ a hx => ?_)))
  · rw [lw14a, neB]; exact hk _ rfl
  subst hx
  have b₁ := b.forget a.same a.keep
  rw [if_neg Bool.false_ne_true]
  obtain ⟨v, hv, hr⟩ := b₁.read (y := nm "again") (q := .bytes (encL (allP c).1)) rfl
  refine isTrue_orC (test_Compare1C (Call_NameC (name_glob ok (by kernel_rfl) (by unfold nameOk; decide) ((globD A₀ G (f := "parse") (by decide)).keeps b₁.base.keep) ?_)) rfl)
  refine callWith_ofC (P := Keep h₁) rfl (fun h k => keepN A₀ G (by decide) h k _) (Calls.evalArgs_plain (Calls.spliced_cons (name_read ok.kind hv (Calls.spliced_nil ⟨b₁.base.keep, ?_⟩))))
  refine parse_ok A₀ G B R b₁.base hr hl fun u s₂ H₂ a₂ hu => ?_
  have b₂ := b₁.after a₂
  refine eval_step (EV _ ok).1 R (P := fun p => p = .lst ((allP c).1.map nameI)) (fun k hk => ?_) b₂.opens fun u' p s₃ H₃ a₃ hu' hp => ?_
  · rw [lw14n]; exact hk _ rfl
  subst hp
  have b₃ := b₂.forget a₃.same a₃.keep
  rw [hn] at hu
  refine cmpK_sound (n := n) (r := .none) (k := fun c => if c then none else some .none) a₃.sub (R.less (by omega)) ((hu.mono (opened_grow b₂)).mono a₃.grow) hu' ?_ fun x t e => ?_
  · show (eqPyK _ _ fun c => if (!c) = true then none else some .none) = _
    rw [names_strs]
    refine (eqPy_strs _ (fun x hx => ?_) _).trans rfl
    obtain ⟨y, hy, rfl⟩ := List.mem_map.mp hx
    exact ascii_cmd (walk_good c hc 4000 0 y hy)
  · cases x with
    | true => cases e
    | false =>
      refine wpAny_of_eq (a := false) rfl ?_
      rw [if_neg Bool.false_ne_true]
      refine wpC_of (isTrue_or_nil ?_)
      rw [if_neg Bool.false_ne_true]
      exact wpC_of (wpAny_execs_nil (N _ _ (b₃.forget (.upd _ _ _) (.refl _))))
end Mine
end

/-! Ex1 -/
section
open PySem PySem.W PyProof.Rows
set_option maxRecDepth 100000
namespace Mine
/-- an exception's class, its names -/
def ExcIn (C : Addr) (bmB : List Value) (newId : String) (h : Heap) : Prop :=
  ∃ bm N nm q bs hdct sn sub ab col dd k0 k1 k2 k3 k5 mN, h.get? C = some (excClassObj nm q C N bs bm hdct sn sub ab col dd k0 k1 k2 k3 k5 newId) ∧ h.Ns N mN ∧ mN "__init__" = none ∧ OwnTail h bmB bm
theorem ExcIn.keeps {C : Addr} {bmB : List Value} {newId : String} {h h' : Heap} (x : ExcIn C bmB newId h) (k : Keep h h') : ExcIn C bmB newId h' :=
  let ⟨bm, N, nm, q, bs, hdct, sn, sub, ab, col, dd, k0, k1, k2, k3, k5, mN, a, b, c, d⟩ := x
  ⟨bm, N, nm, q, bs, hdct, sn, sub, ab, col, dd, k0, k1, k2, k3, k5, mN, k _ _ a, b.keeps k, c, d.keeps k⟩
def nsQ (K : Frag) (N : Addr) : Bool := (match K.lookup N with
  | some ⟨_, _, .dict es _, _⟩ => es.toList.all fun e => match e.key with | .str _ _ => true | _ => false
  | _ => false) && PySem.W.nsIn K N "__init__" == some none
theorem nsQ_ns {K : Frag} {N : Addr} {h : Heap} (X : K.In h) (e : nsQ K N = true) : ∃ m, h.Ns N m ∧ m "__init__" = none := by
  obtain ⟨e1, e2⟩ := and_split e
  have e2 := eq_of_beq e2
  split at e1
  · rename_i c d es n sl q
    refine ⟨nsFind es, ⟨_, es, n, X _ _ q, rfl, fun x hx => ?_, fun _ => rfl⟩, ?_⟩
    · have := List.all_eq_true.mp e1 x (by simpa using hx)
      split at this
      · rename_i y t hy; exact ⟨y, t, hy⟩
      · cases this
    · unfold PySem.W.nsIn at e2
      rw [q] at e2
      dsimp only at e2
      split at e2
      · cases e2
      · rename_i he
        unfold nsFind findBy
        rw [← Array.find?_toList, he]
        rfl
  · cases e1
def clsB (K : Frag) (p : Addr) : Bool := match K.lookup p with
  | some ⟨_, _, .cls cd, _⟩ => nsQ K cd.ns
  | _ => false
def excB (K : Frag) (C : Addr) (bmB : List Value) (newId : String) : Bool := match K.lookup C with
  | some ⟨.type T, _, .cls cd, sl⟩ => decide (T = "type") && (match cd.mro with
      | .ref c :: .ref p :: r => decide (c = C) && r == bmB && clsB K p
      | _ => false) && !cd.hasDel && nsQ K cd.ns && (match sl.toList with
      | [_, _, _, _, some (.builtin n), _] => decide (n = newId)
      | _ => false)
  | _ => false
theorem excB_in {K : Frag} {C : Addr} {bmB : List Value} {newId : String} {h : Heap} (X : K.In h) (e : excB K C bmB newId = true) : ExcIn C bmB newId h := by
  unfold excB at e
  split at e
  · rename_i T d cd sl q
    obtain ⟨e, e5⟩ := and_split e
    obtain ⟨e, e4⟩ := and_split e
    obtain ⟨e, e3⟩ := and_split e
    obtain ⟨e1, e2⟩ := and_split e
    have e1 := of_decide_eq_true e1
    split at e2
    · rename_i c p r hm
      obtain ⟨e2, e6⟩ := and_split e2
      obtain ⟨e2, e7⟩ := and_split e2
      have e2 := of_decide_eq_true e2
      have e7 := eq_of_beq e7
      split at e5
      · rename_i k0 k1 k2 k3 n k5 hs
        have e5 := of_decide_eq_true e5
        have hs : sl = #[k0, k1, k2, k3, some (.builtin n), k5] := by rw [← Array.toArray_toList (xs := sl), hs]
        obtain ⟨mN, hN, hi⟩ := nsQ_ns X e4
        unfold clsB at e6
        split at e6
        · rename_i c9 d9 cp sp qp
          obtain ⟨mP, hP, hpi⟩ := nsQ_ns X e6
          have e9 : cd.hasDel = false := by simpa using e3
          subst e1 e2 e5 e7 hs
          obtain ⟨nm, bs, mro, N, qn, hdct, sn, sub, ab, col, del⟩ := cd
          dsimp only at hm e9 hN
          subst hm e9
          exact ⟨_, _, _, _, _, _, _, _, _, _, _, _, _, _, _, _, mN, X _ _ q, hN, hi, .own (X _ _ qp) hP hpi .base⟩
        · cases e6
      · cases e5
    · cases e2
  · cases e
end Mine
end

/-! Ex2 -/
section
open PySem PySem.W PyProof.Rows
set_option maxRecDepth 100000
namespace Mine
variable {prog : Program} {w : World} {h₁ : Heap} {n : Nat} {sc : Scope} {env : PySem.Env} {A : Around} {s₀ s s' s₂ : Shared} {H₀ H H' : PHeap} {Mu : Addr → Prop} {σ : Vars} {E : Value → Shared → Prop} {T : Tbl} {base : Heap} {l : List PySem.Env} {cls : Value} {e : Addr}

/-- the frames below, and what an exception's flight does not touch -/
structure Low (base : Heap) (l : List PySem.Env) (A : Around) (s : Shared) : Prop where
  frames : A.frames = some l
  stays : base.StaysIn s.heap
  funs : s.heap.FunFrames base l
theorem Low.keeps (B : Low base l A s) (k : Keep s.heap s'.heap) : Low base l A s' := ⟨B.frames, fun a o e => k a o (B.stays a o e), B.funs.of_keeps fun b o e _ => ⟨o, k b o e, rfl⟩⟩
theorem FB.low (b : FB prog w h₁ Mu sc env σ s₀ H₀ s H) (ok : EnvOk sc env) (hf : env.frame = some env.locals) (B : Low base l A s₀) : Low base (env :: l) (A.deeper env) s := by
  have B' := B.keeps b.finish.keep
  refine ⟨Around.frames_deeper B.frames, B'.stays, ?_, ?_, B'.funs⟩
  · rw [ok.kind]; decide
  · obtain ⟨m, o, es, ep, ho, hd, _⟩ := b.fm.ns
    refine ⟨env.locals, o, hf, ?_, ho, fun vs q => by rw [hd] at q; cases q⟩
    cases z : base.get? env.locals with
    | none => rfl
    | some o' => have := B.stays _ _ z; rw [b.fresh _ b.fm.loc] at this; cases this
/-- an exception that flies out -/
structure Out (base : Heap) (l : List PySem.Env) (cls : Value) (s s' : Shared) (e : Addr) : Prop where
  same : Same s s'
  fly : ∃ a0, Heap.FlyingW base l e cls a0 s'.heap
  up : s.heap.UpToSlots s'.heap
theorem Out.of (sm : Same s s₂) (k : Keep s.heap s₂.heap) (O : Out base l cls s₂ s' e) : Out base l cls s s' e := ⟨sm.trans O.same, O.fly, (Heap.UpToSlots.of_keeps k).trans O.up⟩
/-- what an exception's way out of a frame asks -/
structure Leaves (prog : Program) (w : World) (A : Around) (env : PySem.Env) (base : Heap) (l : List PySem.Env) (cls : Value) (s : Shared) (E' : Value → Shared → Prop) : Prop where
  own : PassesOwn (model prog w) A env E'
  pass : ∀ hd, PassesOwnAt (model prog w) (A.mark hd) A env E'
  fly : ∀ e s₂ s', Same s s₂ → Keep s.heap s₂.heap → Out base (env :: l) cls s₂ s' e → E' (.ref e) s'
  made : ∀ e s₂ h' args, Low base (env :: l) A s₂ → Same s s₂ → Keep s.heap s₂.heap → Heap.MadeExcOf s₂.heap h' e cls args → E' (.ref e) { s₂ with heap := h' }
  held : ∀ e a0 s', Same s s' → s.heap.UpToSlots s'.heap → Heap.HeldW base (env :: l) e cls a0 env.locals s'.heap → E' (.ref e) s'
theorem leaves_of {R : Result → Shared → Prop} (hf : env.frame = some env.locals) (hfr : A.frames = some (env :: l)) (hq : ∀ e s', Out base l cls s s' e → R (.error (.ref e)) s') :
    Leaves prog w A env base l cls s (fun e s' => wpAny (model prog w) A (leaving env e) (fun _ s'' => R (.error e) s'') (fun e' s'' => R (.error e') s'') s') where
  own := PassesOwn.leaving
  pass := fun hd => PassesOwnAt.leaving
  fly := fun e s₂ s' sm k O => by
    obtain ⟨a0, fl⟩ := O.fly
    refine wpAny_leaves_onW hfr hf fl fun h' fl' up => hq _ _ ⟨(sm.trans O.same).trans (.upd _ _ _), ⟨a0, fl'⟩, ((Heap.UpToSlots.of_keeps k).trans O.up).trans up⟩
  made := fun e s₂ h' args B sm k m => by
    refine wpAny_leaves_madeW hfr hf B.stays B.funs m fun h'' t fl _ _ up => hq _ _ ⟨sm.trans (.upd _ _ _), ⟨_, fl⟩, ((Heap.UpToSlots.of_keeps k).trans (Heap.UpToSlots.of_keeps m.keeps)).trans up⟩
  held := fun e a0 s' sm up hh => by
    unfold leaving
    refine wpAny_bind (wpAny_noteFrame_againW hf hh.2.2.2 (wpAny_landsW hh fun h' fl up' => hq _ _ ⟨sm.trans (.upd _ _ _), ⟨a0, fl.1, fl.2.1, fl.2.2.1.2.2, fl.2.2.2⟩, up.trans up'⟩))

/-- a call whose body raises -/
theorem raise_open {fa : Addr} {o : Obj} {fd : FuncData} {body : List Stmt} {vals : List Value} {kws : List (Str × Value)} {binds : List (Str × Value)} {pb : List (Str × PV)} {Q : Value → Shared → Prop}
    (ho : h₁.get? fa = some o) (hd : o.data = .func fd) (hlim : h₁.NoLimit) (hcd : h₁.CodeRec fd.code fd.qualname) (hbody : fd.body = .stmts body) (hclo : fd.closure = []) (hglob : fd.globals = mainGlobals) (hblt : fd.builtins = builtinsNs)
    (hsc : scOk fd.scope (pb.map (·.1)) = true) (hb : BindsTo s fd ⟨vals, kws⟩ binds) (hr : RepK prog w H binds pb) (Rm : Room (n + 1) A) (g : Base h₁ H s) (B : Low base l A s)
    (N : ∀ env Mu s₁ E', EnvOk fd.scope env → env.frame = some env.locals → Room n (A.deeper env) → FB prog w h₁ Mu fd.scope env (valsOf pb) s H s₁ H → Leaves prog w (A.deeper env) env base l cls s E' →
      wpAny (model prog w) (A.deeper env) (execs body env) (fun _ _ => False) E' s₁)
    (q : ∀ e s', Out base l cls s s' e → E (.ref e) s') : wpAny (model prog w) A (call (.ref fa) vals kws) Q E s :=
  wpAny_call (code_openF' (n := n) (s' := s) (g.keep _ _ ho) hd (hlim.keeps g.keep) (hcd.keeps g.keep) hbody hclo hglob hblt hsc (fun q => hb _ _ _ _ q) hr Rm g fun env Mu s₁ ok hf R' fb => by
    refine wpAny_mono (N env Mu s₁ _ ok hf R' fb (leaves_of (R := fun r s' => match r with | .ok (.ret v) => Q v s' | .ok _ => False | .error e => E e s') hf (Around.frames_deeper B.frames) q)) (fun _ _ x => x.elim) fun _ _ x => x)
end Mine
end

/-! Ex3 -/
section
open PySem PySem.W PyProof.Rows
set_option maxRecDepth 100000
namespace Mine
variable {prog : Program} {w : World} {h₁ : Heap} {n : Nat} {sc : Scope} {env : PySem.Env} {A : Around} {s₀ s s' s₂ : Shared} {H₀ H H' : PHeap} {Mu : Addr → Prop} {σ : Vars} {E : Value → Shared → Prop} {T : Tbl} {base : Heap} {l : List PySem.Env} {cls : Value} {e : Addr}

/-- a class that raises -/
def ExcC (C : Addr) (h : Heap) : Prop := ∃ bmB B nid initId Bn newId inN bmN, ExcBaseFacts Bn newId inN bmN ∧ bmB.contains (.type Bn) = true ∧ ExcBaseFacts B nid initId bmB ∧ bmB.contains (.type "type") = false ∧ ExcIn C bmB newId h
theorem ExcC.keeps {C : Addr} {h h' : Heap} (x : ExcC C h) (k : Keep h h') : ExcC C h' :=
  let ⟨bmB, B, nid, initId, Bn, newId, inN, bmN, a, b, c, d, e⟩ := x; ⟨bmB, B, nid, initId, Bn, newId, inN, bmN, a, b, c, d, e.keeps k⟩
theorem raise_own {x y : Str} {C : Addr} {v : Value} {np cpos pos yp : Pos} {Q : Flow → Shared → Prop} (ok : EnvOk sc env) (hh : A.handled = none) (X : ExcC C s.heap) (gC : GlobIs s.heap x (.ref C)) (nx : nameOk x) (kx : sc.names.lookup x = some .globalImplicit) (hy : VarIs env s.heap y v)
    (q : ∀ h' e, Heap.MadeExcOf s.heap h' e (.ref C) [v] → E (.ref e) { s with heap := h' }) :
    wpAny (model prog w) A (exec (.Raise (some (.Call (.Name x np) [.Name y yp] [] cpos)) none pos) env) Q E s := by
  obtain ⟨bmB, B, nid, initId, Bn, newId, inN, bmN, Fn, hBn, F, _hty, bm, N, nm, qn, bs, hdct, sn, sub, ab, col, dd, k0, k1, k2, k3, k5, mN, hC, hN, hni, T⟩ := X
  refine wpAny_Raise_call_subU (C := C) (nm := nm) (q := qn) (N := N) (bs := bs) (bm := bm) (hdct := hdct) (sn := sn) (sub := sub) (ab := ab) (col := col) (dd := dd) (k0 := k0) (k1 := k1) (k2 := k2) (k3 := k3) (k5 := k5)
    Fn hBn F (mN := mN) (T.hasType F.hasBase) hh rfl hni (name_glob ok kx nx gC ⟨rfl, ?_⟩)
  exact Calls.evalArgs_plain (Calls.spliced_cons (name_read ok.kind hy (Calls.spliced_nil ⟨rfl, show 1 ≤ sizeLine by decide, hC, hN, T, q⟩)))

/-- the frame takes it, and passes over -/
theorem catch_own {x : Str} {C : Addr} {a0 : Value} {np pp hp : Pos} {rest : List ExceptHandler} {Q : Flow → Shared → Prop} (ok : EnvOk sc env) (hf : env.frame = some env.locals) (hfr : A.frames = some (env :: l)) (X : ExcC C base) (gC : GlobIs base x (.ref C)) (nx : nameOk x) (kx : sc.names.lookup x = some .globalImplicit)
    (fl : Heap.FlyingW base (env :: l) e (.ref C) a0 s.heap) (q : ∀ h', base.StaysIn h' → s.heap.UpToSlots h' → Q .next { s with heap := h' }) :
    wpAny (model prog w) A (noteFrame (.ref e) env) (fun _ s₂ => wpAny (model prog w) A (setFlight (.ref e) none) (fun _ s₃ =>
      wpAny (model prog w) A (handleBy (.ref e) env (.ExceptHandler (some (.Name x np)) none [.Pass pp] hp :: rest)) Q E s₃) E s₂) E s := by
  refine wpAny_looks_onW hfr hf fl fun h₂ hh₂ u₂ => wpAny_landsW hh₂ fun h₃ fl₃ u₃ => ?_
  have gC₃ : GlobIs h₃ x (.ref C) := gC.keeps fl₃.1
  refine wpAny_handleBy_cons (codeAny_handlers_test (name_glob ok kx nx gC₃ ?_)) (by intro q; cases q)
  obtain ⟨bmB, B, nid, initId, Bn, newId, inN, bmN, Fn, hBn, F, _hty, bm, N, nm, qn, bs, hdct, sn, sub, ab, col, dd, k0, k1, k2, k3, k5, mN, hC, hN, hni, T⟩ := X.keeps fl₃.1
  obtain ⟨oe, he, hcls⟩ := fl₃.there
  obtain ⟨hh, g, d, tk, os⟩ := s
  refine wpAny_excMatches_sub_self hC he hcls (T.hasType F.hasBase) (codeAny_handlers_suite ?_)
  exact lands_againW fl₃ fun h₄ fl₄ u₄ => wpAny_execs_cons (wpAny_Pass (wpAny_execs_nil (q h₄ fl₄.1 ((u₂.trans u₃).trans u₄))))
end Mine
end

/-! Ex4 -/
section
open PySem PySem.W PyProof.Rows
set_option maxRecDepth 100000
namespace Mine
variable {prog : Program} {w : World} {h₁ : Heap} {n : Nat} {sc : Scope} {env : PySem.Env} {A : Around} {s₀ s s' s₂ : Shared} {H₀ H H' : PHeap} {Mu : Addr → Prop} {σ : Vars} {E : Value → Shared → Prop} {T : Tbl} {base : Heap} {l : List PySem.Env} {cls : Value} {e : Addr} {ex : Stmt → Vars → KS → Option PV}

/-- all but one object -/
def hole (h : Heap) (a : Addr) : Heap := h.update a fun o => { o with data := .freed }
theorem hole_self (h : Heap) (a : Addr) : (hole h a).get? a = none := by
  cases q : (hole h a).get? a with
  | none => rfl
  | some o =>
    obtain ⟨x, y⟩ := Heap.get?_some_iff.mp q
    have : (hole h a).objs[a]? = h.objs[a]?.map fun o => { o with data := .freed } := by
      unfold hole Heap.update
      simp [Array.getElem?_modify]
    rw [this] at x
    cases z : h.objs[a]? with
    | none => rw [z] at x; cases x
    | some o' => rw [z] at x; cases x; cases y
theorem hole_other {h : Heap} {a b : Addr} (n : b ≠ a) : (hole h a).get? b = h.get? b := Heap.get?_update_other _ _ (Ne.symm n)
theorem hole_stays (h : Heap) (a : Addr) : (hole h a).StaysIn h := fun b o q => by
  by_cases c : b = a
  · rw [c, hole_self] at q; cases q
  · rw [hole_other c] at q; exact q
/-- the slots of the block's own frame change -/
theorem FB.slots (b : FB prog w h₁ Mu sc env σ s₀ H₀ s H) (sm : Same s s') (st : (hole s.heap env.locals).StaysIn s'.heap) (up : s.heap.UpToSlots s'.heap) : FB prog w h₁ Mu sc env σ s₀ H₀ s' H ∧ Step Mu s H Mu s' H := by
  have kp : ∀ a o, a ≠ env.locals → s.heap.get? a = some o → s'.heap.get? a = some o := fun a o n q => st a o ((hole_other n).trans q)
  obtain ⟨m0, oL, es, ep, hoL, hdL, rL⟩ := b.fm.ns
  obtain ⟨sl, hL'⟩ := up _ _ hoL fun vs q => by rw [hdL] at q; cases q
  have live : ∀ a o, s.heap.get? a = some o → ∃ o', s'.heap.get? a = some o' := fun a o q => by
    by_cases c : a = env.locals
    · exact ⟨_, c ▸ hL'⟩
    · exact ⟨o, kp a o c q⟩
  have nMu : ∀ a, ¬ Mu a → a ≠ env.locals := fun a n z => n (z ▸ b.fm.loc)
  have nH : ∀ a o, H a = some o → a ≠ env.locals := fun a o q z => by rw [z, b.mid.off _ b.fm.loc] at q; cases q
  have nCell : ∀ c v, s.heap.IsCell c v → c ≠ env.locals := by
    rintro c v ⟨o, ho, hd⟩ rfl
    rw [hoL] at ho; cases ho
    rw [hdL] at hd; cases hd
  have nList : ∀ a vs, s.heap.PlainList a vs → a ≠ env.locals := by
    rintro a vs hl rfl
    obtain ⟨o, ho, _, k, hd⟩ := hl.isList
    rw [hoL] at ho; cases ho
    rw [hdL] at hd; cases hd
  have ce : ∀ c v, s.heap.IsCell c v → s'.heap.IsCell c v := fun c v k => by
    have ne := nCell c v k
    obtain ⟨o, ho, hd⟩ := k
    exact ⟨o, kp c o ne ho, hd⟩
  have va : ∀ y v, VarIs env s.heap y v → VarIs env s'.heap y v := fun y v ⟨ny, q⟩ => ⟨ny, q.imp (fun ⟨p, m, k, e⟩ => ⟨p, m, up.ns k, e⟩) fun ⟨p, c, k, e⟩ => ⟨p, c, k, ce _ _ e⟩⟩
  refine ⟨⟨⟨b.base₀, ⟨b.mid.same.trans sm, fun a o n q => kp a o (nMu a n) (b.mid.keep a o n q), fun a o q => kp a o (nH a o q) (b.mid.sub a o q), b.mid.grow, b.mid.fresh, b.mid.off, fun a q => let ⟨o, z⟩ := b.mid.alive a q; live a o z⟩,
    ⟨b.fm.loc, ⟨m0, up.ns ⟨oL, es, ep, hoL, hdL, rL⟩⟩, fun y q => let ⟨c, v, h1, h2, h3⟩ := b.fm.cel y q; ⟨c, v, h1, h2, ce _ _ h3⟩, b.fm.apart⟩, ?_⟩, b.fresh⟩,
    ⟨fun a o n q => kp a o (nMu a n) q, fun _ h => h, fun _ h => .inl h, fun _ _ q => q, fun _ _ q => .inl q, live⟩⟩
  refine ⟨fun x p q => let ⟨v, h1, h2⟩ := b.vars.val x p q; ⟨v, va _ _ h1, h2⟩, fun x l q => let ⟨c, vs, h1, h2, h3, h4⟩ := b.vars.own x l q; ⟨c, vs, va _ _ h1, h2, h3.at fun o z => kp c o (nList _ _ h3) z, h4⟩, fun x y l m c ex ey hx hy => ?_⟩
  obtain ⟨c1, _, h1, _⟩ := b.vars.own x l ex
  obtain ⟨c2, _, h2, _⟩ := b.vars.own y m ey
  have e1 := (va _ _ h1).uniq hx
  have e2 := (va _ _ h2).uniq hy
  cases e1; cases e2
  exact b.vars.apart x y l m c ex ey h1 h2

/-- what serialize refuses -/
def Refuses (prog : Program) (w : World) (h₁ : Heap) (n : Nat) (f : Value) (C : Addr) (p : PV) : Prop := ∀ (A : Around) (E : Value → Shared → Prop) (Q : Value → Shared → Prop) (s : Shared) (H : PHeap) (v : Value) (base : Heap) (l : List PySem.Env),
  Room n A → Base h₁ H s → Low base l A s → Keep h₁ base → Rep prog w H v p → (∀ e s', Out base l (.ref C) s s' e → E (.ref e) s') → wpAny (model prog w) A (call f [v]) Q E s
def tryP : Stmt → Option (Str × Expr × Str)
  | .Try (.Expr (.Call (.Name f _) [a] [] _) _ :: _) [.ExceptHandler (some (.Name x _)) none [.Pass _] _] [] [] _ => some (f, a, x)
  | _ => none
/-- the statements of the law that are refused -/
def exT (T : Tbl) (sc : Scope) (f : Str) (bad : Str → PV → Bool) (ex : Stmt → Vars → KS → Option PV) : Stmt → Vars → KS → Option PV := fun st σ k => match tryP st with
  | some (g, a, x) => gate (decide (g = f) && decide (sc.names.lookup f = some .globalImplicit) && decide (sc.names.lookup x = some .globalImplicit) && notStar a) ((evN T 16).ev sc a (rdV σ) fun p => gate (bad x p) (k .next σ))
  | none => ex st σ k
end Mine
end

/-! Ex5 -/
section
open PySem PySem.W PyProof.Rows
set_option maxRecDepth 100000
namespace Mine
variable {prog : Program} {w : World} {h₁ : Heap} {n : Nat} {sc : Scope} {env : PySem.Env} {A : Around} {s₀ s s' s₂ : Shared} {H₀ H H' : PHeap} {Mu : Addr → Prop} {σ : Vars} {E : Value → Shared → Prop} {T : Tbl} {base : Heap} {l : List PySem.Env} {cls : Value} {e : Addr} {ex : Stmt → Vars → KS → Option PV} {ρ : Rd}

/-- f(a): the call is left to the caller -/
theorem call1 {ev1 : Expr → K → Option PV} {f : Str} {fv : Value} {a : Expr} {fp pos : Pos} {k : K} {r : PV} {Q : Value → Shared → Prop} (ok : EnvOk sc env) (S : SndE prog w h₁ n env ρ ev1) (Rm : Room n A) (kx : sc.names.lookup f = some .globalImplicit) (nx : nameOk f) (gf : GlobIs h₁ f fv)
    (kp : ∀ h, Keep h₁ h → KeeperOk h fv) (ha : notStar a = true) (e : ev1 a k = some r) (g : Good prog w h₁ env ρ H s)
    (N : ∀ v p s' H', After s H s' H' → Rep prog w H' v p → k p = some r → wpAny (model prog w) A (call fv [v]) Q E s') : wpAny (model prog w) A (eval (.Call (.Name f fp) [a] [] pos) env) Q E s := by
  refine wpAny_Call_Name_kw (name_glob ok kx nx (gf.keeps g.base.keep) ?_)
  rw [starEach_plain ha]
  refine callWith_of (P := Keep h₁) rfl (fun h k => kp h k _) (Calls.evalArgs_plain (Calls.spliced_cons ?_))
  exact S a k r A E _ s H e Rm g fun v p s' H' af hv e' => Calls.spliced_nil ⟨g.base.keep.trans af.keep, N v p s' H' af hv e'⟩
/-- what the law's tries lean on -/
structure RefK (prog : Program) (w : World) (h₁ : Heap) (n : Nat) (f : Str) (bad : Str → PV → Bool) : Prop where
  fn : ∃ fv, nameOk f ∧ GlobIs h₁ f fv ∧ (∀ h, Keep h₁ h → KeeperOk h fv) ∧ ∀ x p, bad x p = true → ∃ C, nameOk x ∧ GlobIs h₁ x (.ref C) ∧ ExcC C h₁ ∧ Refuses prog w h₁ n fv C p
theorem keep_hole (b : FB prog w h₁ Mu sc env σ s₀ H₀ s H) : Keep h₁ (hole s.heap env.locals) := fun a o q => by
  have ne : a ≠ env.locals := fun z => by
    have := b.mid.off _ b.fm.loc
    rw [← z, b.base.seen _ _ q] at this; cases this
  exact (hole_other ne).trans (b.base.keep _ _ q)
theorem exT_sound {f : Str} {bad : Str → PV → Bool} (TO : TblOk prog w h₁ n T) (ok : EnvOk sc env) (hf : env.frame = some env.locals) (S : SndXA prog w h₁ A n sc env s₀ H₀ ex) (Z : RefK prog w h₁ n f bad) (hA : A.frames = some [env]) :
    SndXA prog w h₁ A n sc env s₀ H₀ (exT T sc f bad ex) := by
  intro st σ k r E Q Mu s H h R b N
  unfold exT at h
  split at h
  case h_2 => exact S st σ k r E Q Mu s H h R b N
  rename_i g a x ht
  obtain ⟨h0, h9⟩ := gate_some h
  obtain ⟨h0, h4⟩ := and_split h0
  obtain ⟨h0, h3⟩ := and_split h0
  obtain ⟨h1, h2⟩ := and_split h0
  have h1 := of_decide_eq_true h1
  have h2 := of_decide_eq_true h2
  have h3 := of_decide_eq_true h3
  clear h h0
  subst h1
  unfold tryP at ht
  split at ht
  case h_2 => cases ht
  cases ht
  obtain ⟨fv, nf, gf, kp, bads⟩ := Z.fn
  refine wpAny_Try_except ?_
  have E' := (evN_sound TO 16 (n := n)) sc env (rdV σ) ok
  refine wpAny_execs_cons (wpAny_Expr_any (call1 ok E'.1 R h2 nf gf kp h4 h9 b.good fun v p s₁ H₁ af hv e => ?_) (not_inter ok) (swaps_plain rfl _ _))
  obtain ⟨hb, e⟩ := gate_some e
  obtain ⟨C, nx, gx, XC, ref⟩ := bads _ _ hb
  have b₁ := b.after af
  have kh := keep_hole b₁
  have B : Low (hole s₁.heap env.locals) [env] A s₁ := by
    refine ⟨hA, hole_stays _ _, by rw [ok.kind]; decide, ?_, trivial⟩
    obtain ⟨m, o, es, ep, ho, hd, _⟩ := b₁.fm.ns
    exact ⟨env.locals, o, hf, hole_self _ _, ho, fun vs q => by rw [hd] at q; cases q⟩
  refine ref A _ _ s₁ H₁ v _ [env] R b₁.base B kh hv fun e1 s₂ O => ?_
  obtain ⟨a0, fl⟩ := O.fly
  refine catch_own ok hf hA (XC.keeps kh) (gx.keeps kh) nx h3 fl fun h' st up => ?_
  obtain ⟨b₃, st₃⟩ := b₁.slots (s' := { s₂ with heap := h' }) (O.same.trans (.upd _ _ _)) st (O.up.trans up)
  exact N.go _ _ σ Mu _ H₁ b₃ ((Step.after af).trans st₃) .next e
/-- a loop over tries -/
def exF (ev : Ev) (sc : Scope) (ex' ex : Stmt → Vars → KS → Option PV) : Stmt → Vars → KS → Option PV := fun st σ k => match st with
  | .For t it bd [] _ => gate (notSet it) (ev.ev sc it (rdV σ) fun p => match itemsOf p with
    | some xs => gate (lenOk xs.length) (forK (bindT sc t) (exList ex' bd) xs σ k)
    | none => none)
  | st => ex st σ k
theorem exF_sound {ev : Ev} {ex' : Stmt → Vars → KS → Option PV} (EV : EvOk prog w h₁ n ev) (ok : EnvOk sc env) (S' : SndXA prog w h₁ A n sc env s₀ H₀ ex') (S : SndXA prog w h₁ A n sc env s₀ H₀ ex) : SndXA prog w h₁ A n sc env s₀ H₀ (exF ev sc ex' ex) := by
  intro st σ k r E Q Mu s H h R b N
  unfold exF at h
  split at h
  · obtain ⟨hi, h⟩ := gate_some h
    exact x_forA EV ok S' hi h R b N
  · exact S st σ k r E Q Mu s H h R b N
open Classical in
theorem stmt_stepA {ex : Stmt → Vars → KS → Option PV} (S : SndXA prog w h₁ A n sc env s₀ H₀ ex) (R : Room n A) {st : Stmt} {P : Fl → Vars → Prop} {Q : Flow → Shared → Prop}
    (e : ∀ k : KS, (∀ f σ', P f σ' → k f σ' = some PV.none) → ex st σ k = some PV.none) (b : FB prog w h₁ Mu sc env σ s₀ H₀ s H)
    (N : ∀ fl f σ' Mu' s' H', FB prog w h₁ Mu' sc env σ' s₀ H₀ s' H' → Step Mu s H Mu' s' H' → FlM fl f → P f σ' → Q fl s')
    (Nr : ∀ v p σ' s' H', After s₀ H₀ s' H' → Rep prog w H' v p → P (.ret p) σ' → Q (.ret v) s') : wpAny (model prog w) A (exec st env) Q E s := by
  have yes : ∀ f σ', (if P f σ' then some PV.none else none) = some PV.none → P f σ' := fun f σ' h => by
    by_cases c : P f σ'
    · exact c
    · rw [if_neg c] at h; cases h
  refine S st σ (fun f σ' => if P f σ' then some PV.none else none) PV.none E Q Mu s H (e _ fun f σ' h => if_pos h) R b ⟨fun fl f σ' Mu' s' H' b' st m h => ?_, fun v p σ' s' H' a hv h => ?_⟩
  · exact N fl f σ' Mu' s' H' b' st m (yes _ _ h)
  · exact Nr v p σ' s' H' a hv (yes _ _ h)
end Mine
end

/-! Ex6 -/
section
open PySem PySem.W PyProof.Rows
set_option maxRecDepth 100000
namespace Mine
variable {prog : Program} {w : World} {h₁ : Heap} {n : Nat} {sc : Scope} {env : PySem.Env} {A : Around} {s₀ s s' s₂ : Shared} {H₀ H H' : PHeap} {Mu : Addr → Prop} {σ : Vars} {E : Value → Shared → Prop} {T : Tbl} {base : Heap} {l : List PySem.Env} {cls : Value} {e : Addr} {ex : Stmt → Vars → KS → Option PV} {ρ : Rd} {ev : Ev} {K : Frag}

/-- an if whose test holds -/
theorem if_take (EV : EvOk prog w h₁ n ev) (ok : EnvOk sc env) (Rm : Room n A) {t : Expr} {bd o : List Stmt} {pos : Pos} {Q : Flow → Shared → Prop} (h : ∀ k : Bool → Option PV, k true = some PV.none → ev.tr sc t (rdA σ) k = some PV.none) (b : FB prog w h₁ Mu sc env σ s₀ H₀ s H)
    (N : ∀ s', FB prog w h₁ Mu sc env σ s₀ H₀ s' H → Keep s.heap s'.heap → wpAny (model prog w) A (execs bd env) Q E s') : wpAny (model prog w) A (exec (.If t bd o pos) env) Q E s := by
  refine wpAny_If (test_step' (EV sc env _ ok).2 Rm (P := fun c => c = true) (fun k hk => h k (hk _ rfl)) b.opens fun c s' H' a hc => ?_)
  subst hc
  exact N s' (b.forget a.same a.keep) a.keep
/-- a text is added to a text -/
theorem aug_str (EV : EvOk prog w h₁ n ev) (ok : EnvOk sc env) (Rm : Room n A) {x : Str} {p0 pos : Pos} {e : Expr} {a y : Str} {Q : Flow → Shared → Prop} (ha : lookV σ x = some (.val (.str a))) (hx : stOk sc x = true)
    (h : ∀ k : PV → Option PV, k (.str y) = some PV.none → ev.ev sc e (rdV σ) k = some PV.none) (hl : a.length + y.length ≤ sizeLine) (b : FB prog w h₁ Mu sc env σ s₀ H₀ s H)
    (N : ∀ s' H', FB prog w h₁ Mu sc env (putV σ x (.val (.str (a ++ y)))) s₀ H₀ s' H' → Q .next s') : wpAny (model prog w) A (exec (.AugAssign (.Name x p0) .Add e pos) env) Q E s := by
  obtain ⟨v, hv, hr⟩ := b.vars.val x _ ha
  refine wpAny_AugAssign_Name (load_read ok.kind hv ?_)
  refine eval_step (EV sc env (rdV σ) ok).1 Rm (P := fun p => p = .str y) (fun k hk => h k (hk _ rfl)) b.good fun u p s₁ H₁ af hu hp => ?_
  subst hp
  cases hr
  cases hu
  refine iadd_str (fun t' tk => ?_) hl
  exact ((b.after af).forget (.upd s₁ s₁.heap tk) (.refl _)).toBlk.store_val ok.kind ok.toKindOk hx (.str _ _) fun s'' b'' tt => N s'' H₁ ⟨b'', b.fresh⟩

/-- a frame of a def that raises -/
structure InF (prog : Program) (w : World) (h₁ : Heap) (n : Nat) (sc : Scope) (C : Addr) (A : Around) (env : PySem.Env) (base : Heap) (l : List PySem.Env) (s : Shared) (H : PHeap) (E' : Value → Shared → Prop) : Prop where
  ok : EnvOk sc env
  frame : env.frame = some env.locals
  room : Room n A
  kept : Keep h₁ base
  low : ∀ Mu σ s₂ H₂, FB prog w h₁ Mu sc env σ s H s₂ H₂ → Low base (env :: l) A s₂
  leaves : Leaves prog w A env base l (.ref C) s E'
theorem InF.made {E' : Value → Shared → Prop} {C : Addr} (I : InF prog w h₁ n sc C A env base l s₀ H₀ E') (b : FB prog w h₁ Mu sc env σ s₀ H₀ s H) {h' : Heap} {e : Addr} {args : List Value} (m : Heap.MadeExcOf s.heap h' e (.ref C) args) : E' (.ref e) { s with heap := h' } :=
  I.leaves.made e s h' args (I.low _ _ _ _ b) b.finish.same b.finish.keep m
theorem InF.fly {E' : Value → Shared → Prop} {C : Addr} (I : InF prog w h₁ n sc C A env base l s₀ H₀ E') (b : FB prog w h₁ Mu sc env σ s₀ H₀ s H) {e : Addr} (O : Out base (env :: l) (.ref C) s s' e) : E' (.ref e) s' :=
  I.leaves.fly e s s' b.finish.same b.finish.keep O
theorem refuse_def (A₀ : AllK w K) (G : Gnd K h₁) {f : String} (hf : f ∈ defN) (hsf : f ∈ simpN) {x : Str} (hb : Simple (parOf f) [x]) (hsc : scOk (scOf f) [x] = true) {C : Addr} {p : PV}
    (N : ∀ (A : Around) (env : PySem.Env) (base : Heap) (l : List PySem.Env) (s : Shared) (H : PHeap) (E' : Value → Shared → Prop) (Mu : Addr → Prop) (s₁ : Shared), InF prog w h₁ n (scOf f) C A env base l s H E' → FB prog w h₁ Mu (scOf f) env [(x, .val p)] s H s₁ H →
      wpAny (model prog w) A (execs (bodyOf f) env) (fun _ _ => False) E' s₁) : Refuses prog w h₁ (n + 1) (.ref (globK K (nm f))) C p := by
  intro A E Q s H v base l Rm g B kb hv q
  have F := fnAtD A₀ hf
  obtain ⟨o, ho, hod⟩ := F.get G.X
  have hs := F.scope
  refine raise_open (n := n) (pb := [(x, p)]) ho hod G.lim (codeRec_of G.X F.code) F.body F.clo F.glob F.blt (by rw [hs]; exact hsc) (.of_eq (hb _ [v] F.params (dflD A₀ hsf).1 (dflD A₀ hsf).2 rfl)) (.cons hv .nil) Rm g B (fun env Mu s₁ E' ok hfr R' fb LV => ?_) q
  rw [hs] at ok fb
  exact N _ env base l s H E' Mu s₁ ⟨ok, hfr, R', kb, fun Mu σ s₂ H₂ b => b.low ok hfr B, LV⟩ fb

def ifTest : Stmt → Expr
  | .If t _ _ _ => t
  | _ => default
def ifBody : Stmt → Nat → Stmt
  | .If _ b _ _, i => b.getD i (.Pass ⟨0, 0, 0, 0⟩)
  | s, _ => s
def augE : Stmt → Expr
  | .AugAssign _ _ e _ => e
  | _ => default
theorem simple_message_text : Simple (parOf "_message_text") [nm "value"] := by
  intro fd vals hp hd hk hl
  obtain ⟨⟩ := fd
  dsimp only at hp hd hk
  subst hp hd hk
  rcases vals with _ | ⟨a, _ | ⟨z, l⟩⟩
  · exact absurd hl (show ¬ 0 = 1 by decide)
  · kernel_rfl
  · exact absurd hl (by intro h; have : (l.length + 2 : Nat) = 1 := h; omega)
def TM : Tbl := tb [(nm "is_integer", iiF), (nm "_message_text", strF)]
theorem mt_tree (z : Int) : runF Mine.base "_message_text" [.int z] = gate (small z) (some (.str (Str.ofString (toString z)))) := by kernel_rfl
theorem en_bodyR : ∃ q1 q2 q3 q4 q5 q6 q7 rest, bodyOf "encode_num" = stb "encode_num" 0 :: .If (ifTest (stb "encode_num" 1)) [ifBody (stb "encode_num" 1) 0, .AugAssign (.Name (nm "err_msg") q1) .Add (augE (ifBody (stb "encode_num" 1) 1)) q2, .Raise (some (.Call (.Name (nm "BTClibValueError") q3) [.Name (nm "err_msg") q4] [] q5)) none q6] [] q7 :: rest :=
  ⟨_, _, _, _, _, _, _, _, by with_unfolding_all rfl⟩
end Mine
end

/-! Ex7 -/
section
open PySem PySem.W PyProof.Rows
set_option maxRecDepth 100000
namespace Mine
variable {prog : Program} {w : World} {h₁ : Heap} {n : Nat} {sc : Scope} {env : PySem.Env} {A : Around} {s₀ s s' s₂ : Shared} {H₀ H H' : PHeap} {Mu : Addr → Prop} {σ : Vars} {E : Value → Shared → Prop} {T : Tbl} {l : List PySem.Env} {cls : Value} {e : Addr} {ex : Stmt → Vars → KS → Option PV} {ρ : Rd} {ev : Ev} {K : Frag}

/-- the exceptions' classes -/
structure Excs (K : Frag) (h₁ : Heap) : Prop where
  v : ExcC (globK K (nm "BTClibValueError")) h₁
  gv : GlobIs h₁ (nm "BTClibValueError") (.ref (globK K (nm "BTClibValueError")))
  t : ExcC (globK K (nm "BTClibTypeError")) h₁
  gt : GlobIs h₁ (nm "BTClibTypeError") (.ref (globK K (nm "BTClibTypeError")))
theorem message_ent (A : AllK w K) (G : Gnd K h₁) (B : ∀ n, TblOk prog w h₁ n base) : Ent prog w h₁ 1 "_message_text" strF := entD A G _ (B 0) simple_message_text (by decide) (by decide) (by unfold nameOk; decide) (by kernel_rfl) fun ps ks k r h => by
  unfold strF at h
  split at h
  · obtain ⟨g, h⟩ := gate_some h
    exact ⟨rfl, rfl, _, (mt_tree _).trans (gateT g), h⟩
  · cases h
theorem tm_ok (A : AllK w K) (G : Gnd K h₁) (B : ∀ n, TblOk prog w h₁ n base) : TblOk prog w h₁ 1 TM := tbl_of (B 1) (l := [("is_integer", iiF), ("_message_text", strF)]) fun p hp => by
  simp only [List.mem_cons, List.not_mem_nil, or_false] at hp
  rcases hp with h | h <;> subst h
  · exact e_is_integer A G B
  · exact message_ent A G B
abbrev enA (z : Int) : Vars := valsOf [(nm "i", .int z)]
theorem enc_refuses (A₀ : AllK w K) (G : Gnd K h₁) (B : ∀ n, TblOk prog w h₁ n base) (X : Excs K h₁) {z : Int} {m1 m2 : Str}
    (e0 : ∀ k, exN TM (scOf "encode_num") 16 4000 8 (stb "encode_num" 0) (enA z) k = k .next (enA z))
    (e1 : ∀ k, (evN TM 16).tr (scOf "encode_num") (ifTest (stb "encode_num" 1)) (rdA (enA z)) k = k true)
    (e2 : ∀ k, exN TM (scOf "encode_num") 16 4000 8 (ifBody (stb "encode_num" 1) 0) (enA z) k = k .next (putV (enA z) (nm "err_msg") (.val (.str m1))))
    (e3 : ∀ k, (evN TM 16).ev (scOf "encode_num") (augE (ifBody (stb "encode_num" 1) 1)) (rdV (putV (enA z) (nm "err_msg") (.val (.str m1)))) k = k (.str m2))
    (hl : m1.length + m2.length ≤ sizeLine) : Refuses prog w h₁ 2 (.ref (globK K (nm "encode_num"))) (globK K (nm "BTClibValueError")) (.int z) :=
  refuse_def (n := 1) A₀ G (f := "encode_num") (by decide) (by decide) simple_encode_num (by kernel_rfl) fun A env base l s H E' Mu s₁ I fb => by
    obtain ⟨q1, q2, q3, q4, q5, q6, q7, rest, eb⟩ := en_bodyR
    rw [eb]
    have TO := tm_ok A₀ G B
    have EV : EvOk prog w h₁ 1 (evN TM 16) := evN_sound TO 16
    have SX : ∀ {s₀ H₀}, SndX prog w h₁ 1 (scOf "encode_num") env s₀ H₀ (exN TM (scOf "encode_num") 16 4000 8) := exN_sound TO I.ok 15 4000 8
    refine wpAny_execs_cons (stmt_step SX I.room (P := fun f σ' => f = .next ∧ σ' = enA z) (fun k hk => (e0 k).trans (hk _ _ ⟨rfl, rfl⟩)) fb (fun fl f σ' Mu₂ s₂ H₂ fb₂ st₂ m P => ?_) fun v p σ' s' H' _ _ P => nomatch P.1)
    obtain ⟨rfl, rfl⟩ := P
    cases m
    refine wpAny_execs_cons (if_take EV I.ok I.room (fun k hk => (e1 k).trans hk) fb₂ fun s₃ fb₃ _ => ?_)
    refine wpAny_execs_cons (stmt_step SX I.room (P := fun f σ' => f = .next ∧ σ' = putV (enA z) (nm "err_msg") (.val (.str m1))) (fun k hk => (e2 k).trans (hk _ _ ⟨rfl, rfl⟩)) fb₃ (fun fl f σ' Mu₄ s₄ H₄ fb₄ st₄ m P => ?_) fun v p σ' s' H' _ _ P => nomatch P.1)
    obtain ⟨rfl, rfl⟩ := P
    cases m
    refine wpAny_execs_cons (aug_str EV I.ok I.room (by rw [lookV_put, if_pos rfl]) (by kernel_rfl) (fun k hk => (e3 k).trans hk) hl fb₄ fun s₅ H₅ fb₅ => ?_)
    obtain ⟨v, hv, hr⟩ := fb₅.read (y := nm "err_msg") (q := .str (m1 ++ m2)) (by rw [lookV_put, if_pos rfl])
    refine wpAny_execs_cons (raise_own I.ok I.room.handled (X.v.keeps fb₅.base.keep) (X.gv.keeps fb₅.base.keep) (by unfold nameOk; decide) (by kernel_rfl) hv fun h' e m => I.made fb₅ m)
theorem enc_hi (A₀ : AllK w K) (G : Gnd K h₁) (B : ∀ n, TblOk prog w h₁ n base) (X : Excs K h₁) : Refuses prog w h₁ 2 (.ref (globK K (nm "encode_num"))) (globK K (nm "BTClibValueError")) (.int 9223372036854775808) :=
  enc_refuses A₀ G B X (m1 := nm "script number out of range: 9223372036854775808") (m2 := nm ", not in [-9223372036854775808, 9223372036854775807]") (fun k => by kernel_rfl) (fun k => by kernel_rfl) (fun k => by kernel_rfl) (fun k => by kernel_rfl) (by decide +kernel)
theorem enc_lo (A₀ : AllK w K) (G : Gnd K h₁) (B : ∀ n, TblOk prog w h₁ n base) (X : Excs K h₁) : Refuses prog w h₁ 2 (.ref (globK K (nm "encode_num"))) (globK K (nm "BTClibValueError")) (.int (-9223372036854775809)) :=
  enc_refuses A₀ G B X (m1 := nm "script number out of range: -9223372036854775809") (m2 := nm ", not in [-9223372036854775808, 9223372036854775807]") (fun k => by kernel_rfl) (fun k => by kernel_rfl) (fun k => by kernel_rfl) (fun k => by kernel_rfl) (by decide +kernel)
end Mine
end

/-! Ex8 -/
section
open PySem PySem.W PyProof.Rows
set_option maxRecDepth 100000
namespace Mine
variable {prog : Program} {w : World} {h₁ : Heap} {n : Nat} {sc : Scope} {env : PySem.Env} {A : Around} {s₀ s s' s₂ : Shared} {H₀ H H' : PHeap} {Mu : Addr → Prop} {σ : Vars} {E : Value → Shared → Prop} {T : Tbl} {l : List PySem.Env} {cls : Value} {e : Addr} {ex : Stmt → Vars → KS → Option PV} {ρ : Rd} {ev : Ev} {K : Frag} {hb : Heap}

theorem keepD (A₀ : AllK w K) (G : Gnd K h₁) {f : String} (hf : f ∈ defN) : ∀ h, Keep h₁ h → KeeperOk h (.ref (globK K (nm f))) := fun h k => by
  obtain ⟨o, ho, hod⟩ := (fnAtD A₀ hf).get G.X
  exact keeper_fn (k _ _ ho) hod
/-- f(x), refused, in a frame -/
theorem call_refused {E' : Value → Shared → Prop} {C : Addr} {f x : Str} {fv : Value} {p : PV} {fp xp pos : Pos} {Q : Value → Shared → Prop} (B : TblOk prog w h₁ n base) (I : InF prog w h₁ n sc C A env hb l s₀ H₀ E') (kx : sc.names.lookup f = some .globalImplicit) (nx : nameOk f) (gf : GlobIs h₁ f fv)
    (kp : ∀ h, Keep h₁ h → KeeperOk h fv) (R : Refuses prog w h₁ n fv C p) (b : FB prog w h₁ Mu sc env σ s₀ H₀ s H) (hx : lookV σ x = some (.val p)) : wpAny (model prog w) A (eval (.Call (.Name f fp) [.Name x xp] [] pos) env) Q E' s := by
  refine call1 (k := some) (r := p) I.ok ((evN_sound B 1 (n := n)) sc env (rdV σ) I.ok).1 I.room kx nx gf kp rfl ?_ b.good fun v p' s' H' af hv hp => ?_
  · show (match rdV σ x with | some p => some p | none => _) = _
    unfold rdV
    rw [hx]
  · cases hp
    have b' := b.after af
    exact R A E' Q s' H' v hb (env :: l) I.room b'.base (I.low _ _ _ _ b') I.kept hv fun e s'' O => I.fly b' O
theorem si_body : ∃ q1 q2 q3 q4 q5 q6, bodyOf "_serialize_int_command" = [.Return (some (.Call (.Name (nm "_serialize_bytes_command") q1) [.Call (.Name (nm "encode_num") q2) [.Name (nm "command") q3] [] q4] [] q5)) q6] := ⟨_, _, _, _, _, _, by with_unfolding_all rfl⟩
theorem si_refuses (A₀ : AllK w K) (G : Gnd K h₁) (B : ∀ n, TblOk prog w h₁ n base) {C : Addr} {z : Int} (R : Refuses prog w h₁ 2 (.ref (globK K (nm "encode_num"))) C (.int z)) : Refuses prog w h₁ 3 (.ref (globK K (nm "_serialize_int_command"))) C (.int z) :=
  refuse_def (n := 2) A₀ G (f := "_serialize_int_command") (by decide) (by decide) simple_serialize_int_command (by kernel_rfl) fun A env base l s H E' Mu s₁ I fb => by
    obtain ⟨q1, q2, q3, q4, q5, q6, eb⟩ := si_body
    rw [eb]
    refine wpAny_execs_cons (wpAny_Return_some (wpAny_Call_Name_kw (name_glob I.ok (by kernel_rfl) (by unfold nameOk; decide) ((globD A₀ G (by decide)).keeps fb.base.keep) ?_)))
    refine callWith_of (P := fun _ => False) rfl (fun h hp => hp.elim) (Calls.evalArgs_plain (Calls.spliced_cons ?_))
    exact call_refused (B 2) I (by kernel_rfl) (by unfold nameOk; decide) (globD A₀ G (by decide)) (keepD A₀ G (by decide)) R fb rfl
end Mine
end

/-! Ex9 -/
section
open PySem PySem.W PyProof.Rows
set_option maxRecDepth 100000
namespace Mine
variable {prog : Program} {w : World} {h₁ : Heap} {n : Nat} {sc : Scope} {env : PySem.Env} {A : Around} {s₀ s s' s₂ : Shared} {H₀ H H' : PHeap} {Mu : Addr → Prop} {σ σ₁ : Vars} {E : Value → Shared → Prop} {T : Tbl} {l : List PySem.Env} {cls : Value} {e : Addr} {ex : Stmt → Vars → KS → Option PV} {ρ : Rd} {ev : Ev} {K : Frag} {hb : Heap}

/-- a loop whose first turn raises -/
theorem for_raise (EV : EvOk prog w h₁ n ev) (ok : EnvOk sc env) {t it : Expr} {bd : List Stmt} {pos : Pos} {x : PV} {xs : List PV} {Q : Flow → Shared → Prop} (hi : notSet it = true) (he : ∀ k : PV → Option PV, k (.lst (x :: xs)) = some PV.none → ev.ev sc it (rdV σ) k = some PV.none)
    (hbd : bindT sc t x σ = some σ₁) (hl : lenOk (x :: xs).length = true) (R : Room n A) (hE : PassesOwn (model prog w) A env E) (b : FB prog w h₁ Mu sc env σ s₀ H₀ s H)
    (N : ∀ Mu' s' H', FB prog w h₁ Mu' sc env σ₁ s₀ H₀ s' H' → wpAny (model prog w) A (execs bd env) (fun _ _ => False) E s') : wpAny (model prog w) A (exec (.For t it bd [] pos) env) Q E s := by
  refine wpAny_For ?_ (notSet_fold hi)
  refine eval_step (EV sc env (rdV σ) ok).1 R (P := fun p => p = .lst (x :: xs)) (fun k hk => he k (hk _ rfl)) b.good fun v p s₁ H₁ a hv hp => ?_
  subst hp
  have b₁ := b.after a
  refine iter_sound (xs := x :: xs) b₁.mid.sub R.handled hv rfl hl fun I fp P St h' kI hI W st hIlt => ?_
  have b₂ := b₁.forget (.upd s₁ h' s₁.toks) kI
  have nMu : ¬ Mu I := fun q => by
    obtain ⟨o, z⟩ := b₁.mid.alive I q
    rw [hI] at z; cases z
  have hH1 : H₁ I = none := by
    cases z : H₁ I with
    | none => rfl
    | some o => rw [b₁.mid.sub _ _ z] at hI; cases hI
  have s0I : s₀.heap.get? I = none := by
    cases z : s₀.heap.get? I with
    | none => rfl
    | some o => rw [b₁.finish.keep _ _ z] at hI; cases hI
  refine codeAny_forLoop_any (fun m s => FB prog w h₁ Mu sc env σ s₀ H₀ s H₁ ∧ St 0 s.heap) ?_ 0 ⟨b₂, st⟩
  rintro m sj ⟨bj, stj⟩
  obtain ⟨oI, TI, fs, ho, hcls, hdat, hq⟩ := W.quiet _ _ stj
  have notCell : ∀ v, ¬ sj.heap.IsCell I v := by
    rintro v ⟨o, z, hd⟩
    rw [ho] at z; cases z
    rw [hdat] at hd; cases hd
  refine W.walks.item 0 sj _ _ (Nat.zero_lt_succ _) stj fun v h2 tk hP st' hk => ?_
  have hk' : ∀ c o, c ≠ I → sj.heap.get? c = some o → h2.get? c = some o := fun c o hc q => hk c o (fun z => hc (List.mem_singleton.mp z)) q
  obtain ⟨oI', TI', fs', ho', hcls', hdat', hq'⟩ := W.quiet _ _ st'
  refine letOwned_quiet ho' hcls' hdat' hq' ?_
  obtain ⟨p, hp, hrep⟩ := W.gives 0 v (Nat.zero_lt_succ _) hP
  cases hp
  have bk := bj.toBlk.other (t := tk) nMu s0I hH1 notCell hk'
  refine bindT_sound R.handled ok.kind ok.toKindOk hrep hbd bk fun s₅ b₅ t₅ => ?_
  exact wpAny_passesOwn hE (wpAny_mono (N Mu s₅ H₁ ⟨b₅, bj.fresh⟩) (fun _ _ x => x.elim) fun _ _ x => x)
end Mine
end

/-! Ex10 -/
section
open PySem PySem.W PyProof.Rows
set_option maxRecDepth 100000
namespace Mine
variable {prog : Program} {w : World} {h₁ : Heap} {n : Nat} {sc : Scope} {env : PySem.Env} {A : Around} {s₀ s s' s₂ : Shared} {H₀ H H' : PHeap} {Mu : Addr → Prop} {σ σ₁ : Vars} {E : Value → Shared → Prop} {T : Tbl} {cls : Value} {e : Addr} {ex : Stmt → Vars → KS → Option PV} {ρ : Rd} {ev : Ev} {K : Frag} {hb : Heap}

theorem append_refused {x : Str} {p0 apos pos p1 : Pos} {a : Expr} {l : List PV} {Q : Flow → Shared → Prop} (ok : EnvOk sc env) (hl : lookV σ x = some (.own l)) (g2 : apos.endLine = pos.line) (g3 : notStar a = true) (b : FB prog w h₁ Mu sc env σ s₀ H₀ s H)
    (h : wpAny (model prog w) A (eval a env) (fun _ _ => False) E s) : wpAny (model prog w) A (exec (.Expr (.Call (.Attribute (.Name x p0) (nm "append") apos) [a] [] pos) p1) env) Q E s := by
  obtain ⟨D, vs, hv, hm, hp, hr⟩ := b.vars.own x l hl
  refine wpAny_Expr_any ?_ (not_inter ok) (swaps_plain rfl _ _)
  rw [arm_eval_Call, base_whole rfl]
  refine wpAny_bind (name_read ok.kind hv ?_)
  refine wpAny_bind (wpAny_standAt ?_)
  have htrees : backTo pos (starEach [a] env) = [(false, eval a env)] := by rw [starEach_plain g3]; rfl
  have hform : methodCallForm (([a] : List Expr).length + ([] : List Keyword).length) (backTo pos (starEach [a] env)) (backToKw pos (keywordEach [] env)) = true := by rw [htrees]; rfl
  have hpos : methodCallPos true (.Name x p0) env apos pos = pure pos := by unfold methodCallPos; simp [g2]
  unfold methodCall
  rw [hform]
  obtain ⟨nn, ho⟩ := id hp
  refine wpAny_bind (wpAny_holding (Calls.getMethod_list_append ho rfl rfl ?_))
  refine wpAny_bind (wpAny_of_eq hpos ?_)
  rw [htrees]
  refine Calls.callWith_builtin rfl (Calls.evalArgs_plain (Calls.spliced_cons (wpAny_mono h (fun _ _ x => x.elim) fun _ _ x => x)))
theorem se_bodyR : ∃ t1 t2 o2 q1 q2 q3 p1 p2 a1 a2 a3 a4 a5 a6 a7 b1 b2 b3 b4 b5 b6 b7, bodyOf "serialize" = [stb "serialize" 0, stb "serialize" 1] ++ [.For (.Name (nm "command") q1) (.Name (nm "script") q2)
    [.If t1 [.Expr (.Call (.Attribute (.Name (nm "r") a1) (nm "append") a2) [.Call (.Name (nm "_serialize_int_command") a3) [.Name (nm "command") a4] [] a5] [] a6) a7]
      [.If t2 [.Expr (.Call (.Attribute (.Name (nm "r") b1) (nm "append") b2) [.Call (.Name (nm "_serialize_str_command") b3) [.Name (nm "command") b4] [] b5] [] b6) b7] o2 p2] p1] [] q3, stb "serialize" 3] ∧
    a2.endLine = a6.line ∧ b2.endLine = b6.line ∧
    (∀ (ps : List PV) (z : Int) (k : Bool → Option PV), (evN base 16).tr (scOf "serialize") t1 (rdA (seA ps [] (some (.int z)))) k = k true) ∧
    (∀ (ps : List PV) (z : Str) (k : Bool → Option PV), (evN base 16).tr (scOf "serialize") t1 (rdA (seA ps [] (some (.str z)))) k = k false) ∧
    (∀ (ps : List PV) (z : Str) (k : Bool → Option PV), (evN base 16).tr (scOf "serialize") t2 (rdA (seA ps [] (some (.str z)))) k = k true) :=
  ⟨_, _, _, _, _, _, _, _, _, _, _, _, _, _, _, _, _, _, _, _, _, _, by with_unfolding_all rfl, by kernel_rfl, by kernel_rfl, fun ps z k => by kernel_rfl, fun ps z k => by kernel_rfl, fun ps z k => by kernel_rfl⟩
theorem if_pass (EV : EvOk prog w h₁ n ev) (ok : EnvOk sc env) (Rm : Room n A) {t : Expr} {bd o : List Stmt} {pos : Pos} {Q : Flow → Shared → Prop} (h : ∀ k : Bool → Option PV, k false = some PV.none → ev.tr sc t (rdA σ) k = some PV.none) (b : FB prog w h₁ Mu sc env σ s₀ H₀ s H)
    (N : ∀ s', FB prog w h₁ Mu sc env σ s₀ H₀ s' H → wpAny (model prog w) A (execs o env) Q E s') : wpAny (model prog w) A (exec (.If t bd o pos) env) Q E s := by
  refine wpAny_If (test_step' (EV sc env _ ok).2 Rm (P := fun c => c = false) (fun k hk => h k (hk _ rfl)) b.opens fun c s' H' a hc => ?_)
  subst hc
  exact N s' (b.forget a.same a.keep)
def TO1 : Tbl := tb [(nm "is_octets", ioF)]
theorem se_preR (ps : List PV) (k : KS) : exList (exN TO1 (scOf "serialize") 16 4000 8) [stb "serialize" 0, stb "serialize" 1] (valsOf [(nm "script", .lst ps)]) k = k .next (seA ps [] none) := by kernel_rfl
theorem to1_ok (A : AllK w K) (G : Gnd K h₁) (B : ∀ n, TblOk prog w h₁ n base) (n : Nat) : TblOk prog w h₁ (n + 1) TO1 := tbl_of (B _) (l := [("is_octets", ioF)]) fun p hp => by
  simp only [List.mem_cons, List.not_mem_nil, or_false] at hp; subst hp; exact (e_is_octets A G B).more (by omega)
theorem InF.pass {E' : Value → Shared → Prop} {C : Addr} {l : List PySem.Env} (I : InF prog w h₁ n sc C A env hb l s₀ H₀ E') : PassesOwn (model prog w) A env E' := I.leaves.own
/-- serialize of one that is refused -/
theorem se_refuses (A₀ : AllK w K) (G : Gnd K h₁) (B : ∀ n, TblOk prog w h₁ n base) {C : Addr} {p : PV} (R : (∃ z, p = .int z ∧ Refuses prog w h₁ 3 (.ref (globK K (nm "_serialize_int_command"))) C p) ∨ ∃ z, p = .str z ∧ Refuses prog w h₁ 3 (.ref (globK K (nm "_serialize_str_command"))) C p) :
    Refuses prog w h₁ 4 (.ref (globK K (nm "serialize"))) C (.lst [p]) :=
  refuse_def (n := 3) A₀ G (f := "serialize") (by decide) (by decide) simple_serialize (by kernel_rfl) fun A env base l s H E' Mu s₁ I fb => by
    obtain ⟨t1, t2, o2, q1, q2, q3, p1, p2, a1, a2, a3, a4, a5, a6, a7, b1, b2, b3, b4, b5, b6, b7, eb, l1, l2, e1, e2, e3⟩ := se_bodyR
    rw [eb]
    have EV : EvOk prog w h₁ 3 (evN Mine.base 16) := evN_sound (B 3) 16
    have SX : ∀ {s₀ H₀}, SndX prog w h₁ 3 (scOf "serialize") env s₀ H₀ (exN TO1 (scOf "serialize") 16 4000 8) := exN_sound (to1_ok A₀ G B 2) I.ok 15 4000 8
    refine seg_step SX I.room (P := fun f σ' => f = .next ∧ σ' = seA [p] [] none) (fun k hk => (se_preR [p] k).trans (hk _ _ ⟨rfl, rfl⟩)) fb (fun fl f σ' Mu₂ s₂ H₂ fb₂ st₂ m P => ?_) fun v p σ' s' H' _ _ P => nomatch P.1
    obtain ⟨rfl, rfl⟩ := P
    cases m
    refine wpAny_execs_cons (for_raise EV I.ok (x := p) (xs := []) (σ₁ := seA [p] [] (some p)) rfl (fun k hk => ?_) (by kernel_rfl) rfl I.room I.pass fb₂ fun Mu₃ s₃ H₃ fb₃ => ?_)
    · rw [show (evN Mine.base 16).ev (scOf "serialize") (.Name (nm "script") q2) (rdV (seA [p] [] none)) k = k (.lst [p]) from by kernel_rfl]
      exact hk
    · rcases R with ⟨z, rfl, R⟩ | ⟨z, rfl, R⟩
      · refine wpAny_execs_cons (if_take EV I.ok I.room (fun k hk => (e1 _ z k).trans hk) fb₃ fun s₄ fb₄ _ => ?_)
        exact wpAny_execs_cons (append_refused I.ok (l := []) (by kernel_rfl) l1 rfl fb₄ (call_refused (B 3) I (by kernel_rfl) (by unfold nameOk; decide) (globD A₀ G (by decide)) (keepD A₀ G (by decide)) R fb₄ (by kernel_rfl)))
      · refine wpAny_execs_cons (if_pass EV I.ok I.room (fun k hk => (e2 _ z k).trans hk) fb₃ fun s₄ fb₄ => ?_)
        refine wpAny_execs_cons (if_take EV I.ok I.room (fun k hk => (e3 _ z k).trans hk) fb₄ fun s₅ fb₅ _ => ?_)
        exact wpAny_execs_cons (append_refused I.ok (l := []) (by kernel_rfl) l2 rfl fb₅ (call_refused (B 3) I (by kernel_rfl) (by unfold nameOk; decide) (globD A₀ G (by decide)) (keepD A₀ G (by decide)) R fb₅ (by kernel_rfl)))
end Mine
end

/-! Ex11 -/
section
open PySem PySem.W PyProof.Rows
set_option maxRecDepth 100000
namespace Mine
variable {prog : Program} {w : World} {h₁ : Heap} {n : Nat} {sc : Scope} {env : PySem.Env} {A : Around} {s₀ s s' s₂ : Shared} {H₀ H H' : PHeap} {Mu : Addr → Prop} {σ σ₁ : Vars} {E : Value → Shared → Prop} {T : Tbl} {cls : Value} {e : Addr} {ex : Stmt → Vars → KS → Option PV} {ρ : Rd} {ev : Ev} {K : Frag} {hb : Heap}

theorem find_str : findCls K (.type "str") (.type "type") "__name__" = some (.get (.builtin "getset_descriptor.__get__") (.builtin "type.__name__") (.type "str") (.type "type")) := by kernel_rfl
theorem find_bytes : findCls K (.type "bytes") (.type "type") "__name__" = some (.get (.builtin "getset_descriptor.__get__") (.builtin "type.__name__") (.type "bytes") (.type "type")) := by kernel_rfl
/-- a class's name -/
theorem name_attr {T q : String} {expr : Bool} {Q : Value → Shared → Prop} (X : K.In s.heap) (ht : kitMeta T = true) (hs : Manifest.isStub T = false)
    (e : findCls K (.type T) (.type "type") "__name__" = some (.get (.builtin "getset_descriptor.__get__") (.builtin "type.__name__") (.type T) (.type "type"))) (hq : ktynFast T = q) (hz : (Str.ofString q).length ≤ sizeLine)
    (h : ∀ tk u, Q (.str (Str.ofString q) tk) { s with toks := u }) : wpAny (model prog w) A (getAttr (.type T) "__name__" expr) Q E s := by
  have hstub : opaqueClassAbove (.type T) = pure none := by unfold opaqueClassAbove; dsimp only; rw [hs]; rfl
  have L0 : Looks (model prog w) s.heap (typeOf (.type T)) (.type "type") := Looks.of_pure (kitMeta_of ht)
  have LO : Looks (model prog w) s.heap (opaqueClassAbove (.type T)) none := Looks.of_pure hstub
  have hg : findIn K (.type "type") "__getattribute__" = some (some (.builtin "type.__getattribute__")) := type_tga
  refine cls_open X LO L0 hg (looks_hook X (r := none) (by rfl)) (by show subIn K _ _ = _; rfl) e ?_
  show wpAny _ _ (do ret (← holding [Value.builtin "type.__name__"] (call (.builtin "getset_descriptor.__get__") [.builtin "type.__name__", .type T, .type "type"]))) _ _ _
  refine wpAny_bind (wpAny_holding (wpAny_call (ktyn_get (s := { s with toks := s.toks + 1 }) (kitMeta_of ht) hq hz ?_)))
  exact wpAny_pure (handed_on rfl (h _ _))
end Mine
end

/-! Ex12 -/
section
open PySem PySem.W PyProof.Rows
set_option maxRecDepth 100000
namespace Mine
variable {prog : Program} {w : World} {h₁ : Heap} {n : Nat} {sc : Scope} {env : PySem.Env} {A : Around} {s₀ s s' s₂ : Shared} {H₀ H H' : PHeap} {Mu : Addr → Prop} {σ σ₁ : Vars} {E : Value → Shared → Prop} {T : Tbl} {cls : Value} {e : Addr} {ex : Stmt → Vars → KS → Option PV} {ρ : Rd} {ev : Ev} {K : Frag} {hb : Heap}

/-- the types that serialize refuses -/
def tyN : PV → Option String
  | .str _ => some "str"
  | .bytes _ => some "bytes"
  | _ => none
theorem tyN_call {v : Value} {p : PV} {q : String} {Q : Value → Shared → Prop} (h : tyN p = some q) (hv : Rep prog w H v p) (hQ : Q (.type q) s) : wpAny (model prog w) A (call (.type "type") [v]) Q E s := by
  cases hv with
  | str x t => cases h; exact call_type_of (Tx := "str") rfl (by decide) hQ
  | bytes x t => cases h; exact call_type_of (Tx := "bytes") rfl (by decide) hQ
  | _ => cases h
theorem kt1 : kitMeta "str" = true ∧ Manifest.isStub "str" = false ∧ ktynFast "str" = "str" ∧ (Str.ofString "str").length ≤ sizeLine := ⟨by decide +kernel, by decide +kernel, by kernel_rfl, by decide +kernel⟩
theorem kt2 : kitMeta "bytes" = true ∧ Manifest.isStub "bytes" = false ∧ ktynFast "bytes" = "bytes" ∧ (Str.ofString "bytes").length ≤ sizeLine := ⟨by decide +kernel, by decide +kernel, by kernel_rfl, by decide +kernel⟩
theorem name_str {expr : Bool} {Q : Value → Shared → Prop} (X : K.In s.heap) (h : ∀ tk u, Q (.str (Str.ofString "str") tk) { s with toks := u }) : wpAny (model prog w) A (getAttr (.type "str") (Str.ofString "__name__") expr) Q E s := by
  have := @name_attr prog w A s E K "str" "str" expr Q X kt1.1 kt1.2.1 find_str kt1.2.2.1 kt1.2.2.2 h
  exact this
theorem name_bytes {expr : Bool} {Q : Value → Shared → Prop} (X : K.In s.heap) (h : ∀ tk u, Q (.str (Str.ofString "bytes") tk) { s with toks := u }) : wpAny (model prog w) A (getAttr (.type "bytes") (Str.ofString "__name__") expr) Q E s := by
  have := @name_attr prog w A s E K "bytes" "bytes" expr Q X kt2.1 kt2.2.1 find_bytes kt2.2.2.1 kt2.2.2.2 h
  exact this
/-- type(x).__name__, read -/
def evTN (x : Str) (q : String) : Expr → (PV → Option PV) → Option PV := fun e k => match e with
  | .Attribute (.Call (.Name f _) [.Name y _] [] _) a _ => gate (decide (f = nm "type") && decide (a = nm "__name__") && decide (y = x)) (k (.str (Str.ofString q)))
  | _ => none
theorem evTN_sound (A₀ : AllK w K) (G : Gnd K h₁) {x : Str} {p : PV} {q : String} (ok : EnvOk sc env) (kt : sc.names.lookup (nm "type") = some .globalImplicit) (hp : tyN p = some q) (hx : ρ x = some p) : SndE prog w h₁ n env ρ (evTN x q) := by
  intro e k r A E Q s H h R g N
  unfold evTN at h
  split at h
  case h_2 => cases h
  obtain ⟨gt, h9⟩ := gate_some h
  obtain ⟨gt, g3⟩ := and_split gt
  obtain ⟨g1, g2⟩ := and_split gt
  have g1 := of_decide_eq_true g1
  have g2 := of_decide_eq_true g2
  have g3 := of_decide_eq_true g3
  clear h gt
  subst g1 g2 g3
  obtain ⟨v, hv, hr⟩ := g.reads _ _ hx
  have X : K.In s.heap := G.X.keeps g.base.keep
  refine Attribute_any_ (wpAny_Call_Name_kw (name_glob ok kt (by unfold nameOk; decide) ((globB A₀ G (x := "type") (v := .type "type") (by simp [blt])).keeps g.base.keep) ?_))
  refine callWith_of (P := fun h => True) rfl (fun h _ => keeper_plain rfl h _) (Calls.evalArgs_plain (Calls.spliced_cons (name_read ok.kind hv (Calls.spliced_nil ⟨trivial, tyN_call hp hr ?_⟩))))
  have fin : ∀ tk u, Q (.str (Str.ofString q) tk) { s with toks := u } := fun tk u => N _ _ _ H (.tok g.base.sub) (.str _ _) h9
  cases p with
  | str y =>
    cases hp
    have := @name_str prog w A s E K true Q X fin
    exact this
  | bytes y =>
    cases hp
    have := @name_bytes prog w A s E K true Q X fin
    exact this
  | _ => cases hp
def io2F : Fun := fun as ks k => match as, ks with
  | [.str _], [] => k (.bool true)
  | [.bytes _], [] => k (.bool true)
  | _, _ => none
theorem e_io2 (A : AllK w K) (G : Gnd K h₁) (B : ∀ n, TblOk prog w h₁ n base) : Ent prog w h₁ 1 "is_octets" io2F := entD A G _ (B 0) simple_is_octets (by decide) (by decide) (by unfold nameOk; decide) (by kernel_rfl) fun ps ks k r h => by
  unfold io2F at h
  split at h
  · exact ⟨rfl, rfl, _, io_str _, h⟩
  · exact ⟨rfl, rfl, _, io_bytes _, h⟩
  · cases h
def TO2 : Tbl := tb [(nm "is_octets", io2F)]
theorem to2_ok (A : AllK w K) (G : Gnd K h₁) (B : ∀ n, TblOk prog w h₁ n base) (n : Nat) : TblOk prog w h₁ (n + 1) TO2 := tbl_of (B _) (l := [("is_octets", io2F)]) fun p hp => by
  simp only [List.mem_cons, List.not_mem_nil, or_false] at hp; subst hp; exact (e_io2 A G B).more (by omega)
theorem se_bodyT : ∃ rest t o q1 q2 q3 q4 q5 q6 q7 q8 e1 e2 es, bodyOf "serialize" = .If t [.Assign [.Name (nm "err_msg") q1] (.JoinedStr (e1 :: e2 :: es) q2) q3, .Raise (some (.Call (.Name (nm "BTClibTypeError") q4) [.Name (nm "err_msg") q5] [] q6)) none q7] o q8 :: rest ∧
    (∀ (p : PV) (k : Bool → Option PV), (tyN p).isSome = true → (evN TO2 16).tr (scOf "serialize") t (rdA (valsOf [(nm "script", p)])) k = k true) ∧
    (∀ (p : PV) (q : String) (k : PV → Option PV), tyN p = some q → joinEv (evTN (nm "script") q) Str.empty (e1 :: e2 :: es) k = k (.str (nm "invalid script commands type: " ++ Str.ofString q))) := by
  refine ⟨_, _, _, _, _, _, _, _, _, _, _, _, _, _, by with_unfolding_all rfl, fun p k h => ?_, fun p q k h => ?_⟩
  · cases p with
    | str y => kernel_rfl
    | bytes y => kernel_rfl
    | _ => cases h
  · cases p with
    | str y => cases h; kernel_rfl
    | bytes y => cases h; kernel_rfl
    | _ => cases h
/-- serialize of a text, of octets -/
theorem se_refusesT (A₀ : AllK w K) (G : Gnd K h₁) (B : ∀ n, TblOk prog w h₁ n base) (X : Excs K h₁) {p : PV} {q : String} (hp : tyN p = some q) : Refuses prog w h₁ 4 (.ref (globK K (nm "serialize"))) (globK K (nm "BTClibTypeError")) p :=
  refuse_def (n := 3) A₀ G (f := "serialize") (by decide) (by decide) simple_serialize (by kernel_rfl) fun A env base l s H E' Mu s₁ I fb => by
    obtain ⟨rest, t, o, q1, q2, q3, q4, q5, q6, q7, q8, e1, e2, es, eb, et, ej⟩ := se_bodyT
    rw [eb]
    have EV : EvOk prog w h₁ 3 (evN TO2 16) := evN_sound (to2_ok A₀ G B 2) 16
    refine wpAny_execs_cons (if_take EV I.ok I.room (fun k hk => (et p k (by rw [hp]; rfl)).trans hk) fb fun s₃ fb₃ _ => ?_)
    have hx : rdV (valsOf [(nm "script", p)]) (nm "script") = some p := rfl
    refine wpAny_execs_cons (wpAny_Assign_Name ?_ (swaps_plain rfl _ _))
    refine wpAny_mono (wpAny_JoinedStr (Q := fun v s' => ∃ H', After s₃ H s' H' ∧ Rep prog w H' v (.str (nm "invalid script commands type: " ++ Str.ofString q))) (join_sound (r := .str (nm "invalid script commands type: " ++ Str.ofString q)) (evTN_sound A₀ G I.ok (by kernel_rfl) hp hx) I.room (e1 :: e2 :: es) Str.empty some (fun v s' => ∃ H', After s₃ H s' H' ∧ Rep prog w H' v (.str (nm "invalid script commands type: " ++ Str.ofString q))) s₃ H (Nat.zero_le _) (ej p q _ hp) fb₃.good fun u p' s₄ H₄ a hu hp' => by cases hp'; exact ⟨H₄, a, hu⟩)) (fun u s₄ hu => ?_) fun _ _ x => x
    obtain ⟨H₄, a, hu⟩ := hu
    have fb₄ := fb₃.after a
    refine fb₄.put I.ok (by kernel_rfl) hu fun s₅ fb₅ _ => ?_
    obtain ⟨v, hv, hr⟩ := fb₅.read (y := nm "err_msg") (q := .str (nm "invalid script commands type: " ++ Str.ofString q)) (by rw [lookV_put, if_pos rfl])
    exact wpAny_execs_cons (raise_own I.ok I.room.handled (X.t.keeps fb₅.base.keep) (X.gt.keeps fb₅.base.keep) (by unfold nameOk; decide) (by kernel_rfl) hv fun h' e m => I.made fb₅ m)
end Mine
end

/-! Ex13 -/
section
open PySem PySem.W PyProof.Rows
set_option maxRecDepth 100000
namespace Mine
section
variable {M : Model} {A : Around} {E : Value → Shared → Prop} {s : Shared}
/-- a frame's first look at an exception -/
theorem note_first {base : Heap} {env : PySem.Env} {outer : List PySem.Env} {L e : Addr} {oe : Obj} {vs : Array Value} {Q : Unit → Shared → Prop}
    (hfr : A.frames = some (env :: outer)) (hl : s.heap.FunFrames base (env :: outer)) (hf : env.frame = some L)
    (he : s.heap.get? e = some oe) (hkb : base.StaysIn s.heap) (hen : base.get? e = none) (hd : oe.data = .fields vs) (h1 : vs[1]? = some .none)
    (h : ∀ h' T oT ts, base.StaysIn h' → h'.FunFrames base (env :: outer) → s.heap.UpToSlots h' → h'.get? e = some (oe.mapFields (·.setIfInBounds 1 (.ref T))) → base.get? T = none → T ≠ e → h'.get? T = some oT → oT.data = .fields ts → ts[3]? = some (rawInt L) → Q () { s with heap := h' }) :
    wpAny M A (noteFrame (.ref e) env) Q E s := by
  have hsz : 1 < vs.size := (Array.getElem?_eq_some_iff.mp h1).1
  have hene : e ∉ (env :: outer).filterMap (·.frame) := fun hm => by
    obtain ⟨_, o, ho, hnf⟩ := hl.mem hm
    rw [he] at ho; injection ho with ho; subst ho; exact hnf vs hd
  unfold noteFrame
  simp only [hf]
  refine wpAny_bind (wpAny_field he hd h1 ?_)
  rw [if_neg (by decide)]
  refine wpAny_bind (wpAny_frameOf_fun hfr hl hf fun h₁ hs₁ => ?_)
  refine wpAny_bind (wpAny_entryPlaceOf fun pl hpl => ?_)
  unfold EntryCells.newEntry newFields
  refine wpAny_bind (wpAny_newObj_type ?_ (hpl.sizeOk5 _ _ _ _ _))
  have he₁ : h₁.get? e = some oe := (hs₁.2.1 e hene).trans he
  have kb₁ : base.StaysIn h₁ := fun b o hbo => (hs₁.2.1 b fun hm => by rw [(hl.mem hm).1] at hbo; cases hbo).trans (hkb b o hbo)
  have he₂ := Heap.get?_push_of_some (h := h₁) { cls := .type "traceback", dict := none, data := .fields ([Value.none, .ref L, .none, rawInt L, .none] ++ (if pl.isEmpty then List.replicate 6 Value.none else pl)).toArray } he₁
  refine wpAny_setField he₂ hd hsz ?_
  have hTe : h₁.objs.size ≠ e := Nat.ne_of_gt (Heap.lt_size he₁)
  have hd₃ := Obj.data_mapFields hd (·.setIfInBounds 1 (Value.ref h₁.objs.size))
  have he₃ := Heap.get?_update_self (Obj.mapFields (·.setIfInBounds 1 (Value.ref h₁.objs.size))) he₂ (Obj.isFreed_of_fields hd₃)
  have hT₃ := (Heap.get?_update_other (h₁.push { cls := .type "traceback", dict := none, data := .fields ([Value.none, .ref L, .none, rawInt L, .none] ++ (if pl.isEmpty then List.replicate 6 Value.none else pl)).toArray })
    (Obj.mapFields (·.setIfInBounds 1 (Value.ref h₁.objs.size))) (Ne.symm hTe)).trans (Heap.get?_push_size h₁ rfl)
  have keep : ∀ b o, b ≠ e → h₁.get? b = some o →
      ((h₁.push { cls := .type "traceback", dict := none, data := .fields ([Value.none, .ref L, .none, rawInt L, .none] ++ (if pl.isEmpty then List.replicate 6 Value.none else pl)).toArray }).update e (Obj.mapFields (·.setIfInBounds 1 (Value.ref h₁.objs.size)))).get? b = some o :=
    fun b o hbe hb => by
      rw [Heap.get?_update_other _ _ (Ne.symm hbe)]
      exact Heap.get?_push_of_some _ hb
  have noRecord : ∀ b o, s.heap.get? b = some o → (∀ vs, o.data ≠ .fields vs) → b ≠ e := fun b o hb hnf q => by
    rw [q, he] at hb; injection hb with hb; subst hb; exact hnf vs hd
  refine h _ h₁.objs.size _ _ (fun b o hbo => keep b o (fun q => by rw [q, hen] at hbo; cases hbo) (kb₁ b o hbo)) (hl.of_keeps fun b o hb hnf => ?_) (fun b o hb hnf => ?_) he₃ kb₁.fresh hTe hT₃ rfl
    (by rcases hpl with rfl | ⟨_, _, _, _, _, _, _, rfl⟩ <;> simp)
  · obtain ⟨sl, hs⟩ := hs₁.2.2 b o hb
    exact ⟨_, keep b _ (noRecord b o hb hnf) hs, rfl⟩
  · obtain ⟨sl, hs⟩ := hs₁.2.2 b o hb
    exact ⟨sl, keep b _ (noRecord b o hb hnf) hs⟩
end
theorem entry_unchain : entryFor table "proto.unchain" = some Builtin.«proto.unchain» := entryFor_of_tree (by kernel_rfl)
end Mine
end

/-! Ex14 -/
section
open PySem PySem.W PyProof.Rows
set_option maxRecDepth 100000
namespace Mine
section
variable {prog : Program} {w : World} {A : Around} {E : Value → Shared → Prop} {s : Shared} {env : PySem.Env}
variable {nm q : Str} {C N : Addr} {bs bm : List Value} {hdct : Bool} {sn : List Str} {sub : List Value} {ab : Bool} {col : Option Bool} {dd : Option Addr} {k0 k1 k2 k3 k5 : Option Value} {newId : String}
theorem unchain_none {v sl : Value} {a : Addr} {ob : Obj} {vs : Array Value} {Q : Value → Shared → Prop} (ho : s.heap.get? a = some ob) (hd : ob.data = .fields vs) (h2 : vs[2]? = some .none) (q : Q .none s) :
    wpAny (model prog w) A (runValue (.builtin "proto.unchain" ⟨[v, .ref a, sl, .bool false], []⟩)) Q E s := by
  refine wpAny_runValue (codeAny_builtin entry_unchain ?_)
  unfold Builtin.«proto.unchain»
  dsimp only
  refine wpAny_bind (wpAny_field ho hd h2 ?_)
  rw [if_pos (by decide)]
  first
    | exact wpAny_pure q
    | (refine wpAny_bind (wpAny_pure ?_); exact wpAny_pure q)
/-- raise X(..) from Y, in Y's own clause -/
theorem raiseStmt_from {x c : Sem Value} {e0 : Addr} {Q : Flow → Shared → Prop} (hbase : bm.contains (.type "BaseException") = true) (hty : bm.contains (.type "type") = false) (hh : A.handled = some (.ref e0))
    (h : wpAny (model prog w) A x (fun v s₁ => ∃ e t, v = .ref e ∧ e ≠ e0 ∧ s₁.heap.get? C = some (excClassObj nm q C N bs bm hdct sn sub ab col dd k0 k1 k2 k3 k5 newId) ∧
      s₁.heap.get? e = some { cls := .ref C, data := .fields #[.ref t, .none, .none, .none, .bool false, .none] } ∧
      (∃ ob vs, s₁.heap.get? e0 = some ob ∧ ob.cls = .type "ValueError" ∧ ob.data = .fields vs ∧ vs[2]? = some .none) ∧
      wpAny (model prog w) A c (fun cv s₂ => cv = .ref e0 ∧ s₂ = s₁ ∧ ∀ h', (∀ b o, b ≠ e → s₁.heap.get? b = some o → h'.get? b = some o) →
        h'.get? e = some { cls := .ref C, data := .fields #[.ref t, .none, .ref e0, .ref e0, .bool true, .none] } → E (.ref e) { s₁ with heap := h' }) E s₁) E s) :
    wpAny (model prog w) A (raiseStmt env (some x) (some c)) Q E s := by
  have hcB : (Value.ref C :: bm).contains (.type "BaseException") = true := by rw [List.contains_cons, hbase, Bool.or_true]
  have hsub := PySem.F.excRaise_ValueError.isExc
  have hmeta := PySem.F.excRaise_ValueError.plainMeta
  unfold raiseStmt
  refine wpAny_bind (wpAny_mono h (fun v s₁ h₁ => ?_) fun _ _ x => x)
  obtain ⟨e, t, rfl, hne, hC, he, ⟨ob, vs, ho, hoc, hod, ho2⟩, hc⟩ := h₁
  dsimp only
  refine wpAny_bind (wpAny_holding (wpAny_mono hc (fun cv s₂ h₂ => wpAny_bind (wpAny_pure ?_)) fun _ _ x => x))
  obtain ⟨rfl, rfl, hE⟩ := h₂
  obtain ⟨hp, g, d, tk, os⟩ := s₂
  have hcT : (Value.ref C :: bm).contains (.type "type") = false := by rw [List.contains_cons, hty]; rfl
  repeat (first | with_reducible refine wpAny_loadPart_at he ?_ | with_reducible refine wpAny_loadPart_at hC ?_ | (with_reducible refine wpAny_isSubtype_exc hC ?_; first | rw [hcB] | rw [hcT]) | wp_step)
  rw [hoc]
  refine wpAny_of_eq hsub ?_
  rw [if_pos rfl]
  refine wpAny_pure ?_
  refine wpAny_bind (wpAny_setField he rfl (show 3 < 6 by decide) ?_)
  have oth : ∀ (hp : Heap) (f : Obj → Obj) b, b ≠ e → (hp.update e f).get? b = hp.get? b := fun hp f b hb => Heap.get?_update_other _ _ (Ne.symm hb)
  have hCe : C ≠ e := fun z => by rw [z, he] at hC; cases hC
  have he1 := Heap.get?_update_self (Obj.mapFields (·.setIfInBounds 3 (Value.ref e0))) he rfl
  refine wpAny_bind (wpAny_setField he1 rfl (show 4 < 6 by decide) ?_)
  have he2 := Heap.get?_update_self (Obj.mapFields (·.setIfInBounds 4 (Value.bool true))) he1 rfl
  have hC2 := (oth _ (Obj.mapFields (·.setIfInBounds 4 (Value.bool true))) _ hCe).trans ((oth hp (Obj.mapFields (·.setIfInBounds 3 (Value.ref e0))) _ hCe).trans hC)
  have ho2' := (oth _ (Obj.mapFields (·.setIfInBounds 4 (Value.bool true))) _ (Ne.symm hne)).trans ((oth hp (Obj.mapFields (·.setIfInBounds 3 (Value.ref e0))) _ (Ne.symm hne)).trans ho)
  generalize hg2 : (hp.update e (Obj.mapFields (·.setIfInBounds 3 (Value.ref e0)))).update e (Obj.mapFields (·.setIfInBounds 4 (Value.bool true))) = hp2 at he2 hC2 ho2' ⊢
  repeat (first | with_reducible refine wpAny_loadPart_at he2 ?_ | with_reducible refine wpAny_loadPart_at hC2 ?_ | (with_reducible refine wpAny_isSubtype_exc hC2 ?_; first | rw [hcB] | rw [hcT]) | wp_step)
  show wpAny _ _ (raiseNew (.ref e)) Q E ⟨hp2, g, d, tk, os⟩
  unfold raiseNew
  refine wpAny_bind (wpAny_handled ?_)
  rw [hh]
  dsimp only
  rw [if_pos (show (Value.ref e0 != Value.ref e) = true by simpa using Ne.symm hne)]
  refine wpAny_bind (wpAny_holding (unchain_none (s := ⟨hp2, g, d, tk, os⟩) ho2' hod ho2 ?_))
  unfold updateField
  have he3 : hp2.get? e = some { cls := .ref C, data := .fields #[.ref t, .none, .none, .ref e0, .bool true, .none] } := he2
  refine wpAny_bind (wpAny_bind (wpAny_load he3 ?_))
  dsimp only
  rw [if_pos (show 2 < (#[Value.ref t, Value.none, Value.none, Value.ref e0, Value.bool true, Value.none] : Array Value).size from (by decide : 2 < 6))]
  refine wpAny_update he3 (wpAny_throw (hE _ (fun b o hb ho => ?_) ?_))
  · show (hp2.update e _).get? b = some o
    rw [oth _ _ b hb, ← hg2, oth _ _ b hb, oth _ _ b hb]
    exact ho
  · exact Heap.get?_update_self _ he3 rfl
end
end Mine
end

/-! Ex15 -/
section
open PySem PySem.W PyProof.Rows
set_option maxRecDepth 100000
namespace Mine
/-- a frame while an exception flies -/
structure FX (base : Heap) (env : PySem.Env) (l : List PySem.Env) (sc h : Heap) (m : Str → Option Value) : Prop where
  stays : base.StaysIn h
  funs : h.FunFrames base (env :: l)
  up : sc.UpToSlots h
  ns : h.Ns env.locals m
  frame : env.frame = some env.locals
  bn : base.get? env.locals = none
  sn : sc.get? env.locals = none
section
variable {base sc h h' : Heap} {env : PySem.Env} {l : List PySem.Env} {m m' : Str → Option Value} {T e : Addr} {oT : Obj} {ts : Array Value}
theorem funs_keeps {base h h' : Heap} {l : List PySem.Env} (k : ∀ b o, h.get? b = some o → (∀ vs, o.data ≠ .fields vs) → ∃ o', h'.get? b = some o' ∧ ∀ vs, o'.data ≠ .fields vs) (hl : h.FunFrames base l) : h'.FunFrames base l := by
  induction l with
  | nil => trivial
  | cons env rest ih =>
    obtain ⟨hk, ⟨L, o, hf, hn, ho, hd⟩, hr⟩ := hl
    obtain ⟨o', ho', hd'⟩ := k L o ho hd
    exact ⟨hk, ⟨L, o', hf, hn, ho', hd'⟩, ih hr⟩
theorem FX.slots (x : FX base env l sc h m) (u : h.UpToSlots h') (st : base.StaysIn h') (f : h'.FunFrames base (env :: l)) : FX base env l sc h' m := ⟨st, f, x.up.trans u, u.ns x.ns, x.frame, x.bn, x.sn⟩
theorem FX.keep (x : FX base env l sc h m) (k : Keep h h') : FX base env l sc h' m := ⟨fun b o q => k b o (x.stays b o q), x.funs.of_keeps fun b o q _ => ⟨o, k b o q, rfl⟩, x.up.trans (.of_keeps k), x.ns.keeps k, x.frame, x.bn, x.sn⟩
theorem FX.notL (x : FX base env l sc h m) {a : Addr} {o : Obj} {vs : Array Value} (ha : h.get? a = some o) (hd : o.data = .fields vs) : a ≠ env.locals := fun z => by
  obtain ⟨o', es, ep, ho, hd', _⟩ := x.ns
  rw [z, ho] at ha; cases ha
  rw [hd] at hd'; cases hd'
/-- a record apart changes -/
theorem FX.recd (x : FX base env l sc h m) (k : ∀ b o, b ≠ e → h.get? b = some o → h'.get? b = some o) (hb : base.get? e = none) {o : Obj} {vs : Array Value} (he : h.get? e = some o) (hd : o.data = .fields vs) : FX base env l sc h' m := by
  have nr : ∀ b o, h.get? b = some o → (∀ vs, o.data ≠ .fields vs) → b ≠ e := fun b o' hq hn z => by rw [z, he] at hq; cases hq; exact hn _ hd
  refine ⟨fun b o' q => k b o' (fun z => by rw [z, hb] at q; cases q) (x.stays b o' q), x.funs.of_keeps fun b o' q hn => ⟨o', k b o' (nr b o' q hn) q, rfl⟩, x.up.trans fun b o' q hn => ⟨o'.slots, k b o' (nr b o' q hn) q⟩, ?_, x.frame, x.bn, x.sn⟩
  obtain ⟨o', es, ep, ho, hd', r⟩ := x.ns
  exact ⟨o', es, ep, k _ _ (nr _ _ ho fun vs q => by rw [hd'] at q; cases q) ho, hd', r⟩
theorem FX.upd (x : FX base env l sc h m) (hT : h.get? T = some oT) (hd : oT.data = .fields ts) (hb : base.get? T = none) {f : Obj → Obj} : FX base env l sc (h.update T f) m :=
  x.recd (e := T) (fun b o n q => (Heap.get?_update_other _ _ (Ne.symm n)).trans q) hb hT hd
/-- the frame's own names change -/
theorem FX.but (x : FX base env l sc h m) (s : Heap.SameBut env.locals h h') (n : h'.Ns env.locals m') : FX base env l sc h' m' := by
  have ne : ∀ b o, sc.get? b = some o → b ≠ env.locals := fun b o q z => by rw [z, x.sn] at q; cases q
  refine ⟨fun b o q => (s.2 b fun z => by rw [z, x.bn] at q; cases q).trans (x.stays b o q), funs_keeps (fun b o q hn => ?_) x.funs, fun b o q hn => ?_, n, x.frame, x.bn, x.sn⟩
  · by_cases c : b = env.locals
    · obtain ⟨o', es, ep, ho, hd', _⟩ := n
      exact ⟨o', c ▸ ho, fun vs z => by rw [hd'] at z; cases z⟩
    · exact ⟨o, (s.2 b c).trans q, hn⟩
  · obtain ⟨sl, z⟩ := x.up b o q hn
    exact ⟨sl, (s.2 b (ne b o q)).trans z⟩
end
section
variable {prog : Program} {w : World} {h₁ : Heap} {n : Nat} {sc : Scope} {env : PySem.Env} {A : Around} {s₀ s s' s₂ : Shared} {H₀ H H' : PHeap} {Mu : Addr → Prop} {σ σ₁ : Vars} {E : Value → Shared → Prop} {e : Addr} {K : Frag} {hb : Heap} {l : List PySem.Env}
theorem FB.fx (b : FB prog w h₁ Mu sc env σ s₀ H₀ s H) (hf : env.frame = some env.locals) (B : Low hb (env :: l) A s) : ∃ m, FX hb env l s₀.heap s.heap m := by
  obtain ⟨m, hm⟩ := b.fm.ns
  obtain ⟨_, ⟨L, o, hL, hn, _⟩, _⟩ := B.funs
  rw [hf] at hL; cases hL
  exact ⟨m, B.stays, B.funs, .of_keeps b.finish.keep, hm, hf, hn, b.fresh _ b.fm.loc⟩
/-- bytes.fromhex refuses -/
theorem fh_raises {y : Str} {b1 b2 b3 b4 : Pos} {x : Str} {Q : Value → Shared → Prop} (A₀ : AllK w K) (G : Gnd K h₁) (hh : A.handled = none) (ok : EnvOk sc env) (kb : sc.names.lookup (nm "bytes") = some .globalImplicit) (hp : b2.endLine = b4.line) (hw : (y.cps.any fun c => decide (128 ≤ c)) = false) (hx : hxL y.cps.size y.cps.toList [] = none)
    (hl : ∀ i : Nat, i ≤ y.cps.toList.length + 1 → ((toString "non-hexadecimal number found in fromhex() arg at position " ++ toString i : String) : Str).length ≤ sizeLine)
    (b : FB prog w h₁ Mu sc env σ s₀ H₀ s H) (hv : lookV σ x = some (.val (.str y))) (q : ∀ h' tk e, Heap.NewExc s.heap h' e "ValueError" → E (.ref e) { s with heap := h', toks := tk }) :
    wpAny (model prog w) A (eval (.Call (.Attribute (.Name (nm "bytes") b1) (nm "fromhex") b2) [.Name x b3] [] b4) env) Q E s := by
  have X : K.In s.heap := G.X.keeps b.base.keep
  rw [arm_eval_Call, base_whole rfl]
  refine wpAny_bind (name_glob ok kb (by unfold nameOk; decide) ((globB A₀ G (x := "bytes") (v := .type "bytes") (by simp [blt])).keeps b.base.keep) ?_)
  refine wpAny_bind (wpAny_standAt ?_)
  have htrees : backTo b4 (starEach [Expr.Name x b3] env) = [(false, eval (.Name x b3) env)] := by rw [starEach_plain rfl]; rfl
  have hform : methodCallForm (([Expr.Name x b3] : List Expr).length + ([] : List Keyword).length) (backTo b4 (starEach [Expr.Name x b3] env)) (backToKw b4 (keywordEach [] env)) = true := by rw [htrees]; rfl
  have hpos : methodCallPos true (.Name (nm "bytes") b1) env b2 b4 = pure b4 := by unfold methodCallPos; simp [hp]
  unfold methodCall
  rw [hform]
  refine wpAny_bind (wpAny_holding (fh_get X A₀.fh ?_))
  refine wpAny_bind (wpAny_of_eq hpos ?_)
  rw [htrees]
  have hB : (s.heap.push bndH).get? s.heap.objs.size = some bndH := Heap.get?_push_size _ rfl
  have kp : Keep s.heap (s.heap.push bndH) := .push _ _
  obtain ⟨v, hvv, hr⟩ := b.read hv
  cases hr
  refine callWith_of (P := fun h => h.get? s.heap.objs.size = some bndH) rfl (fun h hq => keeper_bndH hq _) (Calls.evalArgs_plain (Calls.spliced_cons (name_read ok.kind (hvv.keeps kp) (Calls.spliced_nil ⟨hB, ?_⟩))))
  refine wpAny_call (fh_call hB (fh_tree hw (fun b' e' => by rw [hx] at e'; cases e') fun _ i hi => ?_))
  refine wpAny_raiseErrorMade plainExc_ValueError hh (fun h' tk e m => ?_) (hl i hi)
  refine q h' tk e ⟨fun b o z => m.keeps b o (kp b o z), ?_, m.there⟩
  cases z : s.heap.get? e with
  | none => rfl
  | some o =>
    have := m.new
    rw [show ({ s with heap := s.heap.push bndH, toks := s.toks + 1 } : Shared).heap.get? e = some o from kp _ _ z] at this
    cases this
end
end Mine
end

/-! Ex16 -/
section
open PySem PySem.W PyProof.Rows
set_option maxRecDepth 100000
namespace Mine
variable {prog : Program} {w : World} {sc : Scope} {env : PySem.Env} {A : Around} {s : Shared} {E : Value → Shared → Prop}
theorem keeper_exc {h : Heap} {nm q : Str} {C N : Addr} {bs bm : List Value} {hdct : Bool} {sn : List Str} {sub : List Value} {ab : Bool} {col : Option Bool} {dd : Option Addr} {k0 k1 k2 k3 k5 : Option Value} {newId : String}
    (hC : h.get? C = some (excClassObj nm q C N bs bm hdct sn sub ab col dd k0 k1 k2 k3 k5 newId)) : KeeperOk h (.ref C) := fun M => ⟨.machine, .inr (.inl rfl), fun A Q E s k q => by
  obtain ⟨hp, g, d, t, os⟩ := s
  exact wpAny_keeperOf_exc (k _ _ hC) q⟩
/-- raise X(f'..{y}') from z -/
theorem raise_from {x y z pre cmd : Str} {C e : Addr} {tc : Tok} {k0 : Nat} {d1 d2 d3 d4 d5 e1 e2 e3 : Pos} {Q : Flow → Shared → Prop} (ok : EnvOk sc env) (hh : A.handled = some (.ref e)) (X : ExcC C s.heap) (gC : GlobIs s.heap x (.ref C)) (nx : nameOk x) (kx : sc.names.lookup x = some .globalImplicit)
    (hy : VarIs env s.heap y (.str cmd tc)) (hz : VarIs env s.heap z (.ref e)) (hob : ∃ ob vs, s.heap.get? e = some ob ∧ ob.cls = .type "ValueError" ∧ ob.data = .fields vs ∧ vs[2]? = some .none) (hl : pre.length + cmd.length ≤ 1000000)
    (q : ∀ h' e2 t tk, (∀ b o, b ≠ e2 → s.heap.get? b = some o → h'.get? b = some o) → s.heap.get? e2 = none → h'.get? e2 = some { cls := .ref C, data := .fields #[.ref t, .none, .ref e, .ref e, .bool true, .none] } → E (.ref e2) { s with heap := h', toks := tk }) :
    wpAny (model prog w) A (exec (.Raise (some (.Call (.Name x d1) [.JoinedStr [.Constant (.str pre) k0 e1, .FormattedValue (.Name y e2) (-1) none e3] d2] [] d3)) (some (.Name z d4)) d5) env) Q E s := by
  obtain ⟨bmB, B, nid, initId, Bn, newId, inN, bmN, Fn, hBn, F, hty, bm, N, nm, qn, bs, hdct, sn, sub, ab, col, dd, k0, k1, k2, k3, k5, mN, hC, hN, hni, T⟩ := X
  rw [arm_exec_Raise]
  simp only [evalOpt, Option.map]
  refine wpAny_bind (wpAny_standAt (raiseStmt_from (C := C) (nm := nm) (q := qn) (N := N) (bs := bs) (bm := bm) (hdct := hdct) (sn := sn) (sub := sub) (ab := ab) (col := col) (dd := dd) (k0 := k0) (k1 := k1) (k2 := k2) (k3 := k3) (k5 := k5) (newId := newId) (T.hasType F.hasBase) (T.hasType hty) hh ?_))
  refine wpAny_bind (wpAny_mono (wpAny_Call_ofName (name_glob ok kx nx gC ?_)) (fun v s₃ h₃ => wpAny_bind (wpAny_standAt (wpAny_pure h₃))) fun _ _ y => y)
  have l1 : pre.length ≤ sizeLine := by rw [sizeLine_eq]; omega
  have l2 : cmd.length ≤ sizeLine := by rw [sizeLine_eq]; omega
  have l3 : (Str.empty ++ pre).length ≤ sizeLine := by rw [Str.length_append]; show 0 + _ ≤ _; rw [sizeLine_eq]; omega
  have l4 : (Str.empty ++ pre ++ cmd).length ≤ sizeLine := by rw [Str.length_append, Str.length_append]; show 0 + _ + _ ≤ _; rw [sizeLine_eq]; omega
  have go : ∀ t tk, wpAny (model prog w) A (call (.ref C) ([] ++ [.str (Str.empty ++ pre ++ cmd) t]) []) (fun v s₁ => ∃ e' t, v = .ref e' ∧ e' ≠ e ∧ s₁.heap.get? C = some (excClassObj nm qn C N bs bm hdct sn sub ab col dd k0 k1 k2 k3 k5 newId) ∧
      s₁.heap.get? e' = some { cls := .ref C, data := .fields #[.ref t, .none, .none, .none, .bool false, .none] } ∧
      (∃ ob vs, s₁.heap.get? e = some ob ∧ ob.cls = .type "ValueError" ∧ ob.data = .fields vs ∧ vs[2]? = some .none) ∧
      wpAny (model prog w) A (do let v ← eval (.Name z d4) env; standAt d5; pure v) (fun cv s₂ => cv = .ref e ∧ s₂ = s₁ ∧ ∀ h', (∀ b o, b ≠ e' → s₁.heap.get? b = some o → h'.get? b = some o) →
        h'.get? e' = some { cls := .ref C, data := .fields #[.ref t, .none, .ref e, .ref e, .bool true, .none] } → E (.ref e') { s₁ with heap := h' }) E s₁) E { s with toks := tk } := by
    intro t tk
    obtain ⟨hp, g, d, tks, os⟩ := s
    refine wpAny_call_exc_subU (hrest := show 1 ≤ sizeLine by decide) Fn hBn F T hC hN hni fun h' e' hm => ?_
    obtain ⟨t1, ht, _, _⟩ := hm.there
    obtain ⟨ob, vs, ho, hc, hd, h2⟩ := hob
    refine ⟨e', t1, rfl, fun z => ?_, hm.keeps _ _ hC, ht, ⟨ob, vs, hm.keeps _ _ ho, hc, hd, h2⟩, wpAny_bind (name_read ok.kind (hz.keeps hm.keeps) (wpAny_bind (wpAny_standAt (wpAny_pure ⟨rfl, rfl, fun h'' k9 he => ?_⟩))))⟩
    · have := hm.new; rw [z] at this; rw [show hp.get? e = some ob from ho] at this; cases this
    · exact q h'' e' t1 tk (fun b o n qb => k9 b o n (hm.keeps b o qb)) hm.new he
  refine callWith_of (P := fun h => h.get? C = some (excClassObj nm qn C N bs bm hdct sn sub ab col dd k0 k1 k2 k3 k5 newId)) rfl (fun h hq => keeper_exc hq _) (Calls.evalArgs_plain (Calls.spliced_cons ?_))
  refine wpAny_JoinedStr (pos := d2) ?_
  refine Calls.Constant_str (pos := e1) ⟨_, _, rfl, l3, ?_⟩
  refine wpAny_FormattedValue_plain (pos := e3) (name_read (pos := e2) ok.kind (hy.keeps (Keep.refl _)) ?_)
  refine wpAny_formatField_str ⟨_, _, rfl, l4, l4, Calls.spliced_nil ⟨hC, go _ _⟩⟩ ⟨_, _, rfl, l4, l4, Calls.spliced_nil ⟨hC, go _ _⟩⟩ l2
end Mine
end

/-! Ex17 -/
section
open PySem PySem.W PyProof.Rows
set_option maxRecDepth 100000
namespace Mine
variable {prog : Program} {w : World} {h₁ : Heap} {K : Frag}
def TA : Tbl := tb [(nm "_assert_ascii_command", aaF)]
theorem ta_ok (A : AllK w K) (G : Gnd K h₁) (B : ∀ n, TblOk prog w h₁ n base) (n : Nat) : TblOk prog w h₁ (n + 1) TA := tbl_of (B _) (l := [("_assert_ascii_command", aaF)]) fun p hp => by
  simp only [List.mem_cons, List.not_mem_nil, or_false] at hp; subst hp; exact (e_assert_ascii A G B).more (by omega)
theorem ss_bodyR : ∃ a1 a2 b1 b2 b3 b4 c1 c2 d1 d2 d3 d4 d5 e1 e2 e3 f1 k0 rest, bodyOf "_serialize_str_command" = [stb "_serialize_str_command" 0, stb "_serialize_str_command" 1, stb "_serialize_str_command" 2, stb "_serialize_str_command" 3] ++
    (.Try [.Assign [.Name (nm "data") a1] (.Call (.Attribute (.Name (nm "bytes") b1) (nm "fromhex") b2) [.Name (nm "command") b3] [] b4) a2]
      [.ExceptHandler (some (.Name (nm "ValueError") c1)) (some (nm "e")) [.Raise (some (.Call (.Name (nm "BTClibValueError") d1) [.JoinedStr [.Constant (.str (nm "invalid string command: ")) k0 e1, .FormattedValue (.Name (nm "command") e2) (-1) none e3] d2] [] d3)) (some (.Name (nm "e") d4)) d5] c2] [] [] f1 :: rest) ∧ b2.endLine = b4.line :=
  ⟨_, _, _, _, _, _, _, _, _, _, _, _, _, _, _, _, _, _, _, by with_unfolding_all rfl, by kernel_rfl⟩
theorem ve_nt : isSubtype (.type ((Manifest.find? "ValueError").elim "type" fun x => x.metatype)) (.type "tuple") = pure false := by rw [find?_eq_fast]; rw [isSubtype_type]; kernel_rfl
theorem ve_sub : isSubtype (.type "ValueError") (.type "ValueError") = pure true := by rw [isSubtype_type]; kernel_rfl
theorem fh_msg : ∀ i : Nat, i < 64 → ((toString "non-hexadecimal number found in fromhex() arg at position " ++ toString i : String) : Str).length ≤ sizeLine := by decide +kernel
theorem ss_refuses (A₀ : AllK w K) (G : Gnd K h₁) (B : ∀ n, TblOk prog w h₁ n base) (X : Excs K h₁) {y : Str}
    (e0 : ∀ k, exList (exN TA (scOf "_serialize_str_command") 16 4000 8) [stb "_serialize_str_command" 0, stb "_serialize_str_command" 1, stb "_serialize_str_command" 2, stb "_serialize_str_command" 3] (valsOf [(nm "command", .str y)]) k = k .next (valsOf [(nm "command", .str y)]))
    (hw : (y.cps.any fun c => decide (128 ≤ c)) = false) (hx : hxL y.cps.size y.cps.toList [] = none) (hl : y.cps.toList.length < 60) (hy : (nm "invalid string command: ").length + y.length ≤ 1000000) :
    Refuses prog w h₁ 3 (.ref (globK K (nm "_serialize_str_command"))) (globK K (nm "BTClibValueError")) (.str y) :=
  refuse_def (n := 2) A₀ G (f := "_serialize_str_command") (by decide) (by decide) simple_serialize_str_command (by kernel_rfl) fun A env base l s H E' Mu s₁ I fb => by
    obtain ⟨a1, a2, b1, b2, b3, b4, c1, c2, d1, d2, d3, d4, d5, e1, e2, e3, f1, k0, rest, eb, hp⟩ := ss_bodyR
    rw [eb]
    have SX : ∀ {s₀ H₀}, SndX prog w h₁ 2 (scOf "_serialize_str_command") env s₀ H₀ (exN TA (scOf "_serialize_str_command") 16 4000 8) := exN_sound (ta_ok A₀ G B 1) I.ok 15 4000 8
    refine seg_step SX I.room (P := fun f σ' => f = .next ∧ σ' = valsOf [(nm "command", .str y)]) (fun k hk => (e0 k).trans (hk _ _ ⟨rfl, rfl⟩)) fb (fun fl f σ' Mu₂ s₂ H₂ fb₂ st₂ m P => ?_) fun v p σ' s' H' _ _ P => nomatch P.1
    obtain ⟨rfl, rfl⟩ := P
    cases m
    have B2 := I.low _ _ _ _ fb₂
    obtain ⟨m0, fx⟩ := fb₂.fx I.frame B2
    obtain ⟨v, hv, hr⟩ := fb₂.read (y := nm "command") (q := .str y) rfl
    cases hr with
    | str _ tc =>
    have kc : env.kindOf (nm "command") = some .local := I.ok.loc _ (by kernel_rfl)
    have ke : env.kindOf (nm "e") = some .local := I.ok.loc _ (by kernel_rfl)
    have hm0 : m0 (nm "command") = some (.str y tc) := by
      obtain ⟨_, q⟩ := hv
      rcases q with ⟨_, m, hn, hm⟩ | ⟨q, _⟩
      · exact (fx.ns.agree hn _).trans hm
      · rw [kc] at q; rcases q with q | q <;> cases q
    have nn : nameOk (nm "command") := hv.1
    have hk : (env.scope.kind == .class || (env.scope.kind == .module && env.locals != env.globals)) = false := by rw [I.ok.kind]; rfl
    refine wpAny_execs_cons (wpAny_Try_except (wpAny_execs_cons (wpAny_Assign_Name (fh_raises A₀ G I.room.handled I.ok (by kernel_rfl) hp hw hx (fun i hi => fh_msg i (by omega)) fb₂ rfl fun h1 tk e m => ?_) (swaps_plain rfl _ _))))
    obtain ⟨ob, t0, he, hoc, hod⟩ := m.there
    have nb : base.get? e = none := by
      cases z : base.get? e with
      | none => rfl
      | some o => have := m.new; rw [fx.stays _ _ z] at this; cases this
    have fx1 := fx.keep m.keeps
    refine note_first B2.frames fx1.funs I.frame he fx1.stays nb hod rfl fun h2 T oT ts st2 fn2 up2 he2 bT nTe hT hTd hT3 => ?_
    have fx2 := fx1.slots up2 st2 fn2
    have hd2 : (ob.mapFields (·.setIfInBounds 1 (.ref T))).data = .fields ((#[t0, .none, .none, .none, .bool false, .none] : Array Value).setIfInBounds 1 (.ref T)) := Obj.data_mapFields hod _
    have hc2 : (ob.mapFields (·.setIfInBounds 1 (.ref T))).cls = .type "ValueError" := (Obj.cls_mapFields _ _).trans hoc
    have sz3 : 3 < ts.size := (Array.getElem?_eq_some_iff.mp hT3).1
    refine wpAny_setFlight_none he2 hd2 rfl hT hTd sz3 ?_
    have fx3 := fx2.upd hT hTd bT (f := Obj.mapFields (·.setIfInBounds 3 .none))
    have he3 := (Heap.get?_update_other h2 (Obj.mapFields (·.setIfInBounds 3 Value.none)) nTe).trans he2
    have hTs := Heap.get?_update_self (Obj.mapFields (·.setIfInBounds 3 Value.none)) hT (Obj.isFreed_of_fields (Obj.data_mapFields hTd _))
    have kh3 : Keep h₁ (h2.update T (Obj.mapFields (·.setIfInBounds 3 .none))) := fun a o q => fx3.stays a o (I.kept a o q)
    refine wpAny_handleBy_builtin_as (X := "ValueError") (T := "ValueError") (b := true) PySem.F.excRaise_ValueError.isExc ve_nt ve_sub (name_glob I.ok (by kernel_rfl) (by unfold nameOk; decide) ((globB A₀ G (x := "ValueError") (v := .type "ValueError") (by simp [blt])).keeps kh3) ⟨rfl, ⟨_, he3, hc2⟩, ?_⟩)
    rw [if_pos rfl]
    refine wpAny_setFlight_none he3 hd2 rfl hTs (Obj.data_mapFields hTd _) (by rw [Array.size_setIfInBounds]; exact sz3) ?_
    have fx4 := fx3.upd hTs (Obj.data_mapFields hTd _) bT (f := Obj.mapFields (·.setIfInBounds 3 .none))
    have he4 := (Heap.get?_update_other (h2.update T (Obj.mapFields (·.setIfInBounds 3 Value.none))) (Obj.mapFields (·.setIfInBounds 3 Value.none)) nTe).trans he3
    refine wpAny_storeName_local (m := m0) ke fx4.ns (fun h5 hn5 hs5 => ?_) hk
    have fx5 := fx4.but hs5 hn5
    have he5 := (hs5.2 e (fx4.notL he4 hd2)).trans he4
    have kh5 : Keep h₁ h5 := fun a o q => fx5.stays a o (I.kept a o q)
    refine wpAny_execs_cons (raise_from I.ok rfl (X.v.keeps kh5) (X.gv.keeps kh5) (by unfold nameOk; decide) (by kernel_rfl) ⟨nn, .inl ⟨kc, _, hn5, (if_neg (by decide)).trans hm0⟩⟩ ⟨by unfold nameOk; decide, .inl ⟨ke, _, hn5, if_pos rfl⟩⟩ ⟨_, _, he5, hc2, hd2, rfl⟩ hy fun h6 e2 t6 tk6 k6 n6 he6 => ?_)
    have n6 : h5.get? e2 = none := n6
    have b6 : base.get? e2 = none := by
      cases z : base.get? e2 with
      | none => rfl
      | some o => rw [fx5.stays _ _ z] at n6; cases n6
    have fx6 := fx5.keep (h' := h6) fun b o q => k6 b o (fun z => by rw [z, n6] at q; cases q) q
    refine note_first (show (A.mark (some (.ref e))).frames = some (env :: l) from B2.frames) fx6.funs I.frame he6 fx6.stays b6 rfl rfl fun h7 T2 oT2 ts2 st7 fn7 up7 he7 bT2 nTe2 hT7 hTd7 hT37 => ?_
    have fx7 := fx6.slots up7 st7 fn7
    have sz7 : 3 < ts2.size := (Array.getElem?_eq_some_iff.mp hT37).1
    refine wpAny_nameGoes ke fx7.ns hk fun h8 m8 hn8 hs8 => ?_
    have fx8 := fx7.but hs8 hn8
    have hd7 : (Obj.mapFields (·.setIfInBounds 1 (.ref T2)) { cls := .ref (globK K (nm "BTClibValueError")), data := .fields #[.ref t6, .none, .ref e, .ref e, .bool true, .none] }).data = .fields ((#[.ref t6, .none, .ref e, .ref e, .bool true, .none] : Array Value).setIfInBounds 1 (.ref T2)) := rfl
    have he8 := (hs8.2 e2 (fx7.notL he7 hd7)).trans he7
    have hT8 := (hs8.2 T2 (fx7.notL hT7 hTd7)).trans hT7
    unfold PySem.passOn
    refine wpAny_bind (wpAny_field he8 hd7 (x := .ref T2) rfl ?_)
    rw [if_neg (by simp)]
    rw [I.frame]
    unfold setFlight
    refine wpAny_bind (wpAny_bind (wpAny_field he8 hd7 (x := .ref T2) rfl ?_))
    rw [if_pos (show (Value.ref T2 != Value.none) = true by simp)]
    refine wpAny_setField hT8 hTd7 sz7 (wpAny_throw ?_)
    have fx9 := fx8.upd hT8 hTd7 bT2 (f := Obj.mapFields (·.setIfInBounds 3 ((some env.locals : Option Addr).elim .none fun f => rawInt f)))
    have he9 := (Heap.get?_update_other h8 (Obj.mapFields (·.setIfInBounds 3 ((some env.locals : Option Addr).elim .none fun f => rawInt f))) nTe2).trans he8
    have hT9 := Heap.get?_update_self (Obj.mapFields (·.setIfInBounds 3 ((some env.locals : Option Addr).elim .none fun f => rawInt f))) hT8 (Obj.isFreed_of_fields (Obj.data_mapFields hTd7 _))
    refine I.leaves.pass (some (.ref e)) _ _ (I.leaves.held e2 (.ref t6) _ (fb₂.finish.same.trans (.upd _ _ _)) fx9.up ⟨fx9.stays, b6, fx9.funs, ?_⟩)
    exact ⟨_, _, T2, _, _, he9, ⟨rfl, rfl⟩, hd7, rfl, bT2, nTe2, hT9, Obj.data_mapFields hTd7 _, by simp [sz7]⟩
end Mine
end

/-! Ex18 -/
section
open PySem PySem.W PyProof.Rows
set_option maxRecDepth 100000
namespace Mine
variable {prog : Program} {w : World} {h₁ : Heap} {n : Nat} {K : Frag}
def badT : List Str := [nm "[error]", nm "op_dup", nm "OP_NONE", nm "UNKNOWN_OP_CODE_7", nm "UNKNOWN_OP_CODE_0187", nm "0g", nm "abc"]
/-- what serialize refuses, and by which exception -/
def badP : Str → PV → Bool := fun x p => match p with
  | .lst [.int z] => decide (x = nm "BTClibValueError") && (decide (z = 9223372036854775808) || decide (z = -9223372036854775809))
  | .lst [.str y] => decide (x = nm "BTClibValueError") && badT.any (fun t => decide (t = y))
  | .str _ => decide (x = nm "BTClibTypeError")
  | .bytes _ => decide (x = nm "BTClibTypeError")
  | _ => false
theorem Refuses.more {m : Nat} {f : Value} {C : Addr} {p : PV} (r : Refuses prog w h₁ n f C p) (h : n ≤ m) : Refuses prog w h₁ m f C p := fun A E Q s H v b l R => r A E Q s H v b l (R.less h)
section
variable (A₀ : AllK w K) (G : Gnd K h₁) (B : ∀ n, TblOk prog w h₁ n base) (X : Excs K h₁)
include A₀ G B X
theorem ss_bad : ∀ y ∈ badT, Refuses prog w h₁ 3 (.ref (globK K (nm "_serialize_str_command"))) (globK K (nm "BTClibValueError")) (.str y) := fun y hy => by
  simp only [badT, List.mem_cons, List.not_mem_nil, or_false] at hy
  rcases hy with h | h | h | h | h | h | h <;> subst h <;> exact ss_refuses A₀ G B X (fun k => by kernel_rfl) (by kernel_rfl) (by kernel_rfl) (by decide +kernel) (by decide +kernel)
theorem refK : RefK prog w h₁ 5 (nm "serialize") badP := by
  refine ⟨⟨_, by unfold nameOk; decide, globD A₀ G (f := "serialize") (by decide), keepD A₀ G (by decide), fun x p h => ?_⟩⟩
  have V : nameOk (nm "BTClibValueError") := by unfold nameOk; decide
  have W : nameOk (nm "BTClibTypeError") := by unfold nameOk; decide
  unfold badP at h
  split at h
  · rename_i z
    obtain ⟨h1, h2⟩ := and_split h
    have h1 := of_decide_eq_true h1
    subst h1
    refine ⟨_, V, X.gv, X.v, (se_refuses A₀ G B (.inl ⟨z, rfl, si_refuses A₀ G B ?_⟩)).more (by decide)⟩
    rcases (Bool.or_eq_true _ _).mp h2 with h3 | h3
    · rw [of_decide_eq_true h3]; exact enc_hi A₀ G B X
    · rw [of_decide_eq_true h3]; exact enc_lo A₀ G B X
  · rename_i y
    obtain ⟨h1, h2⟩ := and_split h
    have h1 := of_decide_eq_true h1
    subst h1
    obtain ⟨t, ht, h3⟩ := List.any_eq_true.mp h2
    have h3 := of_decide_eq_true h3
    subst h3
    exact ⟨_, V, X.gv, X.v, (se_refuses A₀ G B (.inr ⟨t, rfl, ss_bad A₀ G B X t ht⟩)).more (by decide)⟩
  · have h1 := of_decide_eq_true h
    subst h1
    exact ⟨_, W, X.gt, X.t, (se_refusesT A₀ G B X (q := "str") rfl).more (by decide)⟩
  · have h1 := of_decide_eq_true h
    subst h1
    exact ⟨_, W, X.gt, X.t, (se_refusesT A₀ G B X (q := "bytes") rfl).more (by decide)⟩
  · cases h
end
end Mine
end

/-! Lb13 -/
section
open PySem PySem.W PyProof.Rows
set_option maxRecDepth 100000
namespace Mine
abbrev exLF (φp φc : Fun) : Stmt → Vars → KS → Option PV := exF (evN (LT φp φc) 16) lsc (exT (LT φp φc) lsc (nm "serialize") badP (exL φp φc)) (exL φp φc)
theorem lw20 (φp φc : Fun) (l : List PV) (h : Int) (k : KS) : exLF φp φc (stL 20) (v1 l h []) k = k .next (v1 l h [(nm "wrong", .val (.int (-9223372036854775809)))]) := by kernel_rfl
theorem lw21 (φp φc : Fun) (l : List PV) (h : Int) (k : KS) : exLF φp φc (stL 21) (v1 l h []) k = k .next (v1 l h [(nm "bare", .val (.bytes [118]))]) := by kernel_rfl
theorem lw22 (φp φc : Fun) (l : List PV) (h : Int) (k : KS) : exLF φp φc (stL 22) (v1 l h []) k = k .next (v1 l h [(nm "wrong", .val (.str (nm "abc")))]) := by kernel_rfl
end Mine
end

/-! Lb14 -/
section
open PySem PySem.W PyProof.Rows PySem.Calls
set_option maxRecDepth 100000
namespace Mine
variable {prog : Program} {w : World} {h₁ : Heap} {n : Nat} {K : Frag} {T : Tbl} {s s' s₀ : Shared} {H H₀ H' : PHeap} {env : PySem.Env} {A : Around} {E : Value → Shared → Prop} {Mu : Addr → Prop} {σ σ' : Vars} {sc : Scope} {φp φc : Fun}
/-- one statement, of clean stacks -/
theorem step1 {ex : Stmt → Vars → KS → Option PV} (S : SndXA prog w h₁ A n sc env s₀ H₀ ex) (R : Room n A) {st : Stmt} {rest : List Stmt} {P : Vars → Prop} {Q : Flow → Shared → Prop} (e : ∀ k : KS, (∀ σ', P σ' → k .next σ' = some PV.none) → ex st σ k = some PV.none) (b : FB prog w h₁ Mu sc env σ s₀ H₀ s H)
    (N : ∀ σ' Mu' s' H', P σ' → FB prog w h₁ Mu' sc env σ' s₀ H₀ s' H' → wpC (model prog w) A (execs rest env) Q E s') : wpC (model prog w) A (execs (st :: rest) env) Q E s :=
  execs_consC (wpC_of (stmt_stepA S R (P := fun f σ' => f = .next ∧ P σ') (fun k hk => e k fun σ' h => hk _ _ ⟨rfl, h⟩) b (fun fl f σ' Mu₂ s₂ H₂ fb₂ st₂ m hP => by
    obtain ⟨rfl, hP⟩ := hP
    cases m
    exact N σ' Mu₂ s₂ H₂ hP fb₂) fun v p σ' s' H' _ _ P => nomatch P.1))
theorem law_body : bodyOf "law" = [stL 0, stL 1] ++ [stL 2, stL 3, stL 4, stL 5, stL 6, stL 7, stL 8, stL 9, stL 10, stL 11, stL 12, stL 13, stL 14, stL 15, stL 16, stL 17, stL 18, stL 19, stL 20, stL 21, stL 22, stL 23] := by with_unfolding_all rfl
theorem v1_cut {l : List PV} {h : Int} {r : Vars} (b : FB prog w h₁ Mu lsc env (v1 l h r) s₀ H₀ s H) : FB prog w h₁ Mu lsc env (v1 l h []) s₀ H₀ s H := b.cut fun x q e => lookV_app (σ := v1 l h []) (r := r) e
theorem val5 (zs : List PV) (h : Int) (c : List UInt8) (hc : c.length < 4000) (k : KS) : ∃ o', exL φp φc (stL 5) (v4 zs h c [] []) k = k .next (v4 zs h c ((allP c).1.map nameI) (loV o')) := by
  have hn := walk_count c 4000 0
  have hn : (allP c).1.length ≤ c.length - 0 := hn
  obtain ⟨o', e⟩ := go5 (φp := φp) (φc := φc) zs h c k (allP c).1 [] none (walk_good c hc 4000 0) (by simp; omega)
  exact ⟨o', by rw [lw5, gateT (lenT (by simp; omega))]; exact e⟩
theorem lx19 (l : List PV) (h : Int) : ∃ r, ∀ k, exL φp φc (stL 19) (v1 l h []) k = k .next (v1 l h r) := ⟨_, fun k => lw19 φp φc l h k⟩
theorem lx20 (l : List PV) (h : Int) : ∃ r, ∀ k, exLF φp φc (stL 20) (v1 l h []) k = k .next (v1 l h r) := ⟨_, fun k => lw20 φp φc l h k⟩
theorem lx21 (l : List PV) (h : Int) : ∃ r, ∀ k, exLF φp φc (stL 21) (v1 l h []) k = k .next (v1 l h r) := ⟨_, fun k => lw21 φp φc l h k⟩
theorem lx22 (l : List PV) (h : Int) : ∃ r, ∀ k, exLF φp φc (stL 22) (v1 l h []) k = k .next (v1 l h r) := ⟨_, fun k => lw22 φp φc l h k⟩
theorem law_c (A₀ : AllK w K) (G : Gnd K h₁) (B : ∀ n, TblOk prog w h₁ n base) (X : Excs K h₁) {zs : List Int} {h : Int} {Q : Flow → Shared → Prop} (ok : EnvOk lsc env) (hf : env.frame = some env.locals) (R : Room 5 A) (hA' : A.frames = some [env]) (fb₁ : FB prog w h₁ Mu lsc env (v1 (zs.map .int) h []) s₀ H₀ s H)
    (q : ∀ v s' H', After s₀ H₀ s' H' → Rep prog w H' v (.bool true) → Q (.ret v) s') : wpC (model prog w) A (execs [stL 19, stL 20, stL 21, stL 22, stL 23] env) Q E s := by
  have TO : TblOk prog w h₁ 5 TLaw := law_tbl A₀ G B
  have SX : SndX prog w h₁ 5 lsc env s₀ H₀ (exL partF lcmF) := exN_sound TO ok 15 4000 8
  have S := SX.at (A := A)
  have SF : SndXA prog w h₁ A 5 lsc env s₀ H₀ (exLF partF lcmF) := exF_sound (evN_sound TO 16) ok (exT_sound TO ok hf S (refK A₀ G B X) hA') S
  obtain ⟨r19, e19⟩ := lx19 (φp := partF) (φc := lcmF) (zs.map .int) h
  have fb₁ := v1_cut fb₁
  with_reducible refine step1 S R (P := fun σ' => σ' = v1 (zs.map .int) h r19) (fun k hk => (e19 k).trans (hk _ rfl)) fb₁ fun σ' Mu₂ s₂ H₂ hP fb₂ => ?_
  subst hP
  obtain ⟨r20, e20⟩ := lx20 (φp := partF) (φc := lcmF) (zs.map .int) h
  have fb₂ := v1_cut fb₂
  with_reducible refine step1 SF R (P := fun σ' => σ' = v1 (zs.map .int) h r20) (fun k hk => (e20 k).trans (hk _ rfl)) fb₂ fun σ' Mu₃ s₃ H₃ hP fb₃ => ?_
  subst hP
  obtain ⟨r21, e21⟩ := lx21 (φp := partF) (φc := lcmF) (zs.map .int) h
  have fb₃ := v1_cut fb₃
  with_reducible refine step1 SF R (P := fun σ' => σ' = v1 (zs.map .int) h r21) (fun k hk => (e21 k).trans (hk _ rfl)) fb₃ fun σ' Mu₄ s₄ H₄ hP fb₄ => ?_
  subst hP
  obtain ⟨r22, e22⟩ := lx22 (φp := partF) (φc := lcmF) (zs.map .int) h
  have fb₄ := v1_cut fb₄
  with_reducible refine step1 SF R (P := fun σ' => σ' = v1 (zs.map .int) h r22) (fun k hk => (e22 k).trans (hk _ rfl)) fb₄ fun σ' Mu₅ s₅ H₅ hP fb₅ => ?_
  subst hP
  have fb₅' := v1_cut fb₅
  with_reducible refine execs_consC (wpC_of (stmt_stepA S R (P := fun f σ' => f = .ret (.bool true)) (fun k hk => (lw23 partF lcmF (zs.map .int) h k).trans (hk _ _ rfl)) fb₅' (fun fl f σ' Mu₂ s₂ H₂ fb₂ st₂ m hP => ?_) fun v p σ' s' H' a hv hP => ?_))
  · subst hP; cases m
  · cases hP
    exact q v s' H' a hv
theorem law_b (A₀ : AllK w K) (G : Gnd K h₁) (B : ∀ n, TblOk prog w h₁ n base) {zs : List Int} (hz : zs.length ≤ 63) {h : Int} {Q : Flow → Shared → Prop} (ok : EnvOk lsc env) (R : Room 5 A) (fb₆ : FB prog w h₁ Mu lsc env (v1 (zs.map .int) h []) s₀ H₀ s H)
    (q : ∀ Mu s' H', FB prog w h₁ Mu lsc env (v1 (zs.map .int) h []) s₀ H₀ s' H' → wpC (model prog w) A (execs [stL 19, stL 20, stL 21, stL 22, stL 23] env) Q E s') : wpC (model prog w) A (execs [stL 15, stL 16, stL 17, stL 18, stL 19, stL 20, stL 21, stL 22, stL 23] env) Q E s := by
  have TO : TblOk prog w h₁ 5 TLaw := law_tbl A₀ G B
  have SX : SndX prog w h₁ 5 lsc env s₀ H₀ (exL partF lcmF) := exN_sound TO ok 15 4000 8
  have S := SX.at (A := A)
  have Z := law_facts
  obtain ⟨cs, k1, k2, e15⟩ := val15 Z zs hz h
  with_reducible refine step1 S R (P := fun σ' => σ' = v1 (zs.map .int) h [(nm "commands", .val (.lst (cs.map fun c => .tup [c.1, .bytes c.2])))]) (fun k hk => (e15 k).trans (hk _ rfl)) fb₆ fun σ' Mu₇ s₇ H₇ hP fb₇ => ?_
  subst hP
  with_reducible refine step1 S R (P := fun σ' => σ' = v1 (zs.map .int) h [(nm "commands", .val (.lst (cs.map fun c => .tup [c.1, .bytes c.2])))]) (fun k hk => (val16 (zs.map .int) h cs k1 k2 k).trans (hk _ rfl)) fb₇ fun σ' Mu₈ s₈ H₈ hP fb₈ => ?_
  subst hP
  have fb₈ := v1_cut fb₈
  with_reducible refine step1 S R (P := fun σ' => ∃ o, σ' = v1 (zs.map .int) h (loP o)) (fun k hk => ?_) fb₈ fun σ' Mu₉ s₉ H₉ hP fb₉ => ?_
  · obtain ⟨o', e⟩ := val17 (φp := partF) (φc := lcmF) zs hz h k
    exact e.trans (hk _ ⟨o', rfl⟩)
  obtain ⟨o17, rfl⟩ := hP
  have fb₉ := v1_cut fb₉
  with_reducible refine step1 S R (P := fun σ' => ∃ o, σ' = v1 (zs.map .int) h (oV o)) (fun k hk => ?_) fb₉ fun σ' Mu₁ s₁ H₁ hP fb₁ => ?_
  · obtain ⟨o', e⟩ := val18 (φp := partF) (φc := lcmF) (zs.map .int) h k
    exact e.trans (hk _ ⟨o', rfl⟩)
  obtain ⟨o18, rfl⟩ := hP
  have fb₁ := v1_cut fb₁
  with_reducible exact q _ _ _ fb₁
theorem law_walk (A₀ : AllK w K) (G : Gnd K h₁) (B : ∀ n, TblOk prog w h₁ n base) (X : Excs K h₁) {zs : List Int} (hz : zs.length ≤ 63) {v : Value} {Q : Value → Shared → Prop} (Rm : Room 6 A) (hA : A.frames = some []) (g : Base h₁ H s) (hv : Rep prog w H v (.lst (zs.map .int)))
    (q : ∀ v s' H', After s H s' H' → Rep prog w H' v (.bool true) → Q v s') : wpC (model prog w) A (call (.ref (globK K (nm "law"))) [v]) Q E s := by
  have F := fnAtD A₀ (f := "law") (by decide)
  obtain ⟨o, ho, hod⟩ := F.get G.X
  have hs := F.scope
  refine wpC_call (codeC_openF (n := 5) (pb := [(nm "script", .lst (zs.map .int))]) (g.keep _ _ ho) hod (G.lim.keeps g.keep) ((codeRec_of G.X F.code).keeps g.keep) F.body F.clo F.glob F.blt (by rw [hs]; kernel_rfl) (.of_eq (simple_law _ [v] F.params (dflD A₀ (by decide)).1 (dflD A₀ (by decide)).2 rfl)) (.cons hv .nil) Rm g fun env Mu s₁ ok hf R fb => ?_)
  rw [hs] at ok fb
  have hA' : (A.deeper env).frames = some [env] := Around.frames_deeper hA
  have TO : TblOk prog w h₁ 5 TLaw := law_tbl A₀ G B
  have SX : SndX prog w h₁ 5 lsc env s H (exL partF lcmF) := exN_sound TO ok 15 4000 8
  have S := SX.at (A := A.deeper env)
  have Z := law_facts
  rw [law_body]
  obtain ⟨h, c, hc, e0⟩ := seg01 Z zs hz
  with_reducible refine execs_appendC [stL 0, stL 1] s₁ (wpC_of (run_step SX R (P := fun f σ' => f = .next ∧ σ' = v2 (zs.map .int) h c []) (fun k hk => (e0 k).trans (hk _ _ ⟨rfl, rfl⟩)) fb (fun fl f σ' Mu₂ s₂ H₂ fb₂ st₂ m P => ?_) fun v p σ' s' H' _ _ P => nomatch P.1))
  obtain ⟨rfl, rfl⟩ := P
  cases m
  dsimp only
  obtain ⟨c', hc', e2⟩ := seg2 (φp := partF) (φc := lcmF) (zs.map .int) h c (by omega)
  have hc4 : c'.length < 4000 := by omega
  with_reducible refine step1 S R (P := fun σ' => σ' = v2 (zs.map .int) h c' []) (fun k hk => (e2 k).trans (hk _ rfl)) fb₂ fun σ' Mu₃ s₃ H₃ hP fb₃ => ?_
  subst hP
  with_reducible refine step1 S R (P := fun σ' => σ' = v3 (zs.map .int) h c' []) (fun k hk => (lw3 partF lcmF (zs.map .int) h k c').trans ((gateT (decide_eq_true hc4)).trans (hk _ rfl))) fb₃ fun σ' Mu₄ s₄ H₄ hP fb₄ => ?_
  subst hP
  with_reducible refine step1 S R (P := fun σ' => σ' = v4 (zs.map .int) h c' [] []) (fun k hk => (lw4 partF lcmF (zs.map .int) h k c').trans (hk _ rfl)) fb₄ fun σ' Mu₅ s₅ H₅ hP fb₅ => ?_
  subst hP
  with_reducible refine step1 S R (P := fun σ' => ∃ o, σ' = v4 (zs.map .int) h c' ((allP c').1.map nameI) (loV o)) (fun k hk => ?_) fb₅ fun σ' Mu₆ s₆ H₆ hP fb₆ => ?_
  · obtain ⟨o', e⟩ := val5 (φp := partF) (φc := lcmF) (zs.map .int) h c' hc4 k
    exact e.trans (hk _ ⟨o', rfl⟩)
  obtain ⟨o5, rfl⟩ := hP
  have fb₆ : FB prog w h₁ Mu₆ lsc env (v4 (zs.map .int) h c' ((allP c').1.map nameI) []) s H s₆ H₆ := fb₆.cut fun x q e => lookV_app (σ := v4 (zs.map .int) h c' ((allP c').1.map nameI) []) (r := loV o5) e
  with_reducible refine execs_consC (walk6 (n := 0) A₀ G B ok R hc4 fb₆ fun s₇ H₇ fb₇ => ?_)
  with_reducible refine step1 S R (P := fun σ' => σ' = v6 (zs.map .int) h c' ((allP c').1.map nameI) (tailS c' 4000 0) []) (fun k hk => (val7 (zs.map .int) h c' hc4 k).trans (hk _ rfl)) fb₇ fun σ' Mu₈ s₈ H₈ hP fb₈ => ?_
  subst hP
  with_reducible refine execs_consC (wpC_of (walk8 (n := 0) A₀ G B TO ok R hc4 fb₈ fun s₉ H₉ fb₉ => ?_))
  with_reducible refine step1 S R (P := fun σ' => ∃ o, σ' = v6 (zs.map .int) h c' ((allP c').1.map nameI) (tailS c' 4000 0) (loV o)) (fun k hk => ?_) fb₉ fun σ' Mu₁ s₁ H₁ hP fb₁ => ?_
  · obtain ⟨o', e⟩ := val9 (φp := partF) (φc := lcmF) (zs.map .int) h c' hc4 ((allP c').1.map nameI) (tailS c' 4000 0) k
    exact e.trans (hk _ ⟨o', rfl⟩)
  obtain ⟨o9, rfl⟩ := hP
  have fb₁ : FB prog w h₁ Mu₁ lsc env (v6 (zs.map .int) h c' ((allP c').1.map nameI) (tailS c' 4000 0) []) s H s₁ H₁ := fb₁.cut fun x q e => lookV_app (σ := v6 (zs.map .int) h c' ((allP c').1.map nameI) (tailS c' 4000 0) []) (r := loV o9) e
  with_reducible refine step1 S R (P := fun σ' => σ' = v6 (zs.map .int) h c' ((allP c').1.map nameI) (tailS c' 4000 0) []) (fun k hk => (val10 (zs.map .int) h c' hc4 _ _ k).trans (hk _ rfl)) fb₁ fun σ' Mu₂ s₂ H₂ hP fb₂ => ?_
  subst hP
  with_reducible refine step1 S R (P := fun σ' => σ' = v6 (zs.map .int) h c' ((allP c').1.map nameI) (tailS c' 4000 0) []) (fun k hk => (val11 (zs.map .int) h c' hc4 _ _ k).trans (hk _ rfl)) fb₂ fun σ' Mu₃ s₃ H₃ hP fb₃ => ?_
  subst hP
  with_reducible refine step1 S R (P := fun σ' => σ' = v12 (zs.map .int) h c' ((allP c').1.map nameI) (tailS c' 4000 0) (.bytes (encL (allP c').1)) []) (fun k hk => (val12 (zs.map .int) h c' hc4 _ _ k).trans (hk _ rfl)) fb₃ fun σ' Mu₄ s₄ H₄ hP fb₄ => ?_
  subst hP
  with_reducible refine step1 S R (P := fun σ' => σ' = v13 (zs.map .int) h c' ((allP c').1.map nameI) (tailS c' 4000 0) (.bytes (encL (allP c').1)) (.bytes (encL (allP c').1)) []) (fun k hk => (val13 (zs.map .int) h c' hc4 _ k).trans (hk _ rfl)) fb₄ fun σ' Mu₅ s₅ H₅ hP fb₅ => ?_
  subst hP
  with_reducible refine execs_consC (walk14 (n := 0) A₀ G B TO ok R hc4 fb₅ fun s₆ H₆ fb₆ => ?_)
  have fb₆ := v1_cut fb₆
  with_reducible refine law_b A₀ G B hz ok R fb₆ ?_
  intro Mu s' H' fb
  with_reducible refine law_c A₀ G B X ok hf R hA' fb ?_
  exact fun v s' H' a hv => q v s' H' a hv
end Mine
end

/-! HeadC -/
section
open PySem PySem.W PySem.Calls PyProof.Rows
set_option maxRecDepth 100000
namespace Mine

/-- what the walk shows, of clean stacks alone -/
def WalkC (q : Program) (loose : List Str) (XP : (Str → Option Value) → Heap → Prop) (YP : World → Heap → Prop) (r : RowW) (d : DefRec) (kwd : List (Str × Expr)) : Prop :=
  ∀ (w : World) (s₀ s₁ : Shared) (mg mb : Str → Option Value), Ground q loose r.records XP w s₀ mg mb s₁.heap → YP w s₁.heap → ∀ (a : Addr) (o : Obj) (pm cd doc dV kV : Value), s₁.heap.get? a = some o →
    o.data = .func { docDef d.name d.params d.body d.scope pm cd doc with defaults := dV, kwdefaults := kV } → s₁.heap.CodeRec cd d.name → Dflts mg s₁.heap d.params kwd dV kV → mg d.name = some (.ref a) → s₁.gens = #[] →
    ∀ (args : List WData) (vals : List Value) (as : List Addr), r.claim.pre args = true → WData.layableAll args = true → ReadsAllW r.records (classAt s₀.heap) s₁.heap vals args as → WellAll w.params s₁.heap vals args → (∀ a ∈ as, (a == sysModules) = false) →
      wpC (model r.prog w) callerA (PySem.call (.ref a) vals) (fun v s' => GoodWG r.claim (classAt s₀.heap) (ExcName.means s₀.heap) args s₁ (.ok (.ret v)) s')
        (fun e s' => GoodWG r.claim (classAt s₀.heap) (ExcName.means s₀.heap) args s₁ (.error e) s') s₁

/-- a thread of the caller's own ends -/
theorem thread_endsC {prog : Program} {w : World} {t : Sem Fin} {s : Shared} {R : Result → Shared → Prop} (hreg : s.asleep)
    (h : wpC (model prog w) callerA t (fun fin s' => ∃ f, fin = .done f ∧ (R (.ok f) s' ∧ leftWithCleanup s'.gens = false)) (fun e s' => R (.error e) s' ∧ leftWithCleanup s'.gens = false) s) :
    ∃ n r s' s'', runN (denote table) prog w n s ⟨t, .builtin "claim.caller" {}, default, []⟩ = .halted (outcomeOf r) s' ∧
      schedN (denote table) prog w n (.single s ⟨t, .builtin "claim.caller" {}, default, []⟩) = .halted (outcomeOf r) s' ∧ s'.forget = s''.forget ∧ R r s'' := by
  have base : Sem.wp (model prog w) ⟨.builtin "claim.caller" {}, none, none, [], none⟩ t
      (Sem.finPost (model prog w) ⟨.builtin "claim.caller" {}, none, none, [], none⟩ fun r s' => R r s' ∧ leftWithCleanup s'.gens = false) (fun e _ s' => R (.error e) s' ∧ leftWithCleanup s'.gens = false) default s := by
    refine Sem.wp_mono _ _ t (fun fin p' s' h' => ?_) (fun _ _ _ h' => h') default s (h _ default caller_in ⟨by decide, by decide⟩ (fun _ hx => nomatch hx))
    obtain ⟨f, rfl, hf⟩ := h'
    exact hf
  obtain ⟨n, r, s₁, s₂, hs, hn, hfo, hR⟩ := wp_halts_full (M := model prog w) (R := R) hreg base
  exact ⟨n, r, s₂, s₁, hn, hs, hfo, hR⟩

theorem callFromC {c : ClaimW} {tree : List Value → Sem Fin} {w : World} {s : Shared} {free : Addr → Prop} {gens : Prop} {kept : Heap → Prop} (hz : s.asleep) (hgens : s.gens = #[])
    (hspec : ∀ args, c.pre args = true → WData.layableAll args = true → ∀ ord : List DictEntry → List DictEntry, (∀ l, (ord l).Perm l) →
      ∃ vs s₁, layAllW c.records (classAt s.heap) w.params ord args s = some (vs, s₁) ∧
        wpC (model c.prog w) callerA (tree vs) (fun fin s' => ∃ f, fin = .done f ∧ (c.Ends s args vs s₁ (.ok f) s' ∧ s'.os = s.os ∧ AllBare s'.gens ∧ kept s'.heap))
          (fun e s' => c.Ends s args vs s₁ (.error e) s' ∧ s'.os = s.os ∧ AllBare s'.gens ∧ kept s'.heap) s₁) :
    c.CallFrom (fun vs => ⟨tree vs, .builtin "claim.caller" {}, default, []⟩) w free gens kept s := by
  intro args hpre hlay ord hord
  obtain ⟨vs, s₁, hlaid, hcode⟩ := hspec args hpre hlay ord hord
  have hal := layAllW_rest _ _ _ hlaid
  obtain ⟨k, r, s', s'', hrun, hsched, hfo, ⟨hcase, hos, hkp⟩⟩ := thread_endsC (prog := c.prog) (w := w) (t := tree vs) (s := s₁) (R := fun r s' => c.Ends s args vs s₁ r s' ∧ s'.os = s.os ∧ kept s'.heap)
    (Shared.asleep_of_life hal.2.2.2 hz) (wpC_mono hcode (fun fin s' ⟨f, e, h1, h2, h3, h4⟩ => ⟨f, e, ⟨h1, h2, h4⟩, leftWithCleanup_false_of_bare h3⟩) fun e s' ⟨h1, h2, h3, h4⟩ => ⟨⟨h1, h2, h4⟩, leftWithCleanup_false_of_bare h3⟩)
  obtain ⟨eh, _, _, eo, _⟩ := Shared.forget_eq hfo
  have hcase := hcase.congr eh
  have hkp : kept s'.heap := by rw [eh]; exact hkp
  rw [← eo] at hos
  refine ⟨vs, s₁, hlaid, k, _, s', hsched, ?_, (fun _ i x hx => by rw [hgens] at hx; simp at hx), hkp, by rw [show s'.heap.life = s.heap.life from (runN_life _ _ _ hrun).trans hal.2.2.2], Shared.rest_eq hos⟩
  rcases hcase with ⟨v, rfl, d1, d2, d3, d4, d5⟩ | ⟨e, ob, cls, rfl, d1, d2, d3, d4, d5⟩
  · exact .inl ⟨v, rfl, d1, d2, d3, fun b o y _ => d4 b o y, d5⟩
  · exact .inr ⟨e, ob, cls, rfl, d1, d2, d3, d4, fun b o y _ => d5 b o y⟩

theorem PySem.W.holds_open {r : OpenRow} {q : Program} {loose : List Str} {Xt : Shared → Bool} {XP : (Str → Option Value) → Heap → Prop} {α : Type} {Yf : Shared → α} {Ya : World → α} {YP : World → Heap → Prop} {d : DefRec} {kwd : List (Str × Expr)} {N : Nat}
    (left : LeftO r.prog q loose Xt Yf Ya N) (hY : ∀ w s, Yf s = Ya w → YP w s.heap) (hYk : ∀ w h h', YP w h → (∀ b o, h.get? b = some o → h'.get? b = some o) → YP w h')
    (hX : ∀ s, Xt s = true → XP (s.heap.nsMap mainGlobals) s.heap) (hXk : ∀ mg h h', XP mg h → (∀ b o, h.get? b = some o → h'.get? b = some o) → XP mg h')
    (hdef : defOf q r.name = some (d, kwd)) (hp : r.prog.theDef r.name = some (d.params, d.body, d.scope)) (hk : kwWritten? d.params.kwonlyargs d.params.kw_defaults = some kwd) (hRf : ∀ s, Xt s = true → RecFacts r.records s.heap) (hwr : (!r.writes || r.records.isEmpty) = true)
    (k1 : r.wellSaid = true) (ok : (chainsOk q && opensWell r.prog && (frees r.toRowW && r.within.isEmpty)) = true) (hb : r.prog.bare) (hw : r.toRowW.promised)
    (call : WalkC q loose XP YP r.toRowW d kwd) : r.Holds := by
  obtain ⟨ok1, k5⟩ := Bool.and_eq_true_iff.mp ok
  obtain ⟨hch, o1⟩ := Bool.and_eq_true_iff.mp ok1
  obtain ⟨k5, k6⟩ := Bool.and_eq_true_iff.mp k5
  obtain ⟨hsame, hu, ha, hap, hm⟩ := frees_parts k5
  refine ⟨k1, hw, ⟨⟨hb, o1, by show r.toRowW.makers.map _ = []; rw [hm]; rfl⟩, hw.witness, fun w => ⟨(left.behind hX hch w).1, fun s' hs' => ?_⟩⟩⟩
  obtain ⟨s₀, hf, hg0, s, hT, hz, hgens, hg, G00, y⟩ := (left.behind (XP := fun mg h => XP mg h ∧ RecFacts r.records h) (fun s hs => ⟨hX s hs, hRf s hs⟩) hch w).2 s' hs'
  have G0 : Ground q loose [] XP w s (s.heap.nsMap mainGlobals) (s.heap.nsMap builtinsNs) s.heap := ⟨G00.T, G00.B, G00.D, G00.TE, G00.TD, G00.W, G00.X.1, G00.cls, G00.has, G00.apart, G00.once, G00.K⟩
  have RF := G00.X.2
  have hT' := hT
  refine ⟨s₀, hf, hg0, s, hT, fun n hn => ?_, RF.1, RF.2.1, ?_⟩
  · obtain rfl : n = r.name := by split at hn <;> simp_all
    exact pinned_of_view hg G0 hdef hp hk
  have hgens : s.gens = #[] := Array.eq_empty_of_size_eq_zero (beq_iff_eq.mp hgens)
  have G : Ground q loose r.records XP w s _ _ s.heap := RF.ground G0
  refine callFromC (c := r.toRowW.claim) hz hgens fun args hpre hlay ord hord => ?_
  obtain ⟨⟨vs, s₁⟩, hlaid⟩ := Option.isSome_iff_exists.mp (layAllW_isSome (P := w.params) (ord := ord) G.has args r.args s (pre_splitW hpre).1)
  have keeps := layAllW_keeps _ _ _ hlaid
  have hal := layAllW_rest _ _ _ hlaid
  obtain ⟨as, hrd, hin, hold⟩ := reads_layAllW hord _ _ _ hlaid hlay s₁.heap (fun _ _ e => e)
  have L : Laid r.records w s s₁ args vs as := ⟨⟨ord, hord, hlaid⟩, hrd, hin, hold, keeps, hal.1.trans hgens, hal.2.2.1⟩
  have G₁ := G.keeps hXk keeps
  obtain ⟨a, o, pm, cd, doc, dV, kV, h1, h2, h3, h4, h5⟩ := G₁.fn hdef
  have h := call w s s₁ _ _ G₁ (hYk _ _ _ (hY w s y) keeps) a o pm cd doc dV kV h2 h3 h4 h5 (defOf_name hdef ▸ h1) L.gens args vs as hpre hlay L.reads L.well (L.low G.low)
  have hi := ident_freeW hu ha hap
  have hwi : r.toRowW.claim.within = [] := List.isEmpty_iff.mp k6
  refine ⟨vs, s₁, hlaid, wpC_bindA (wpAny_nsGet G₁.T.g ?_)⟩
  rw [h1]
  refine wpC_bindB (wpC_mono h (fun v s' g => ?_) fun e s' g => ?_)
  · have z := g.laid (c := r.toRowW.claim) hsame hwi hi L
    exact wpAny_pure ⟨_, rfl, z.1, z.2.1, z.2.2, fun q => ⟨namesKept_of hT' hg _ keeps g.2.1.old, noTable hwr q⟩⟩
  · have z := g.laid (c := r.toRowW.claim) hsame hwi hi L
    exact ⟨z.1, z.2.1, z.2.2, fun q => ⟨namesKept_of hT' hg _ keeps g.2.1.old, noTable hwr q⟩⟩
end Mine
end

/-! Fn1 -/
section
open PySem PySem.W PyProof.Rows
set_option maxRecDepth 100000
namespace Mine
abbrev theRow : RowW := PySem.Challenge.rw_ez0019_01.row.toRowW
theorem items_ints : ∀ {R : WRecords} {xs : List WData}, WShape.hasItems R xs .int = true → ∃ zs : List Int, xs = zs.map .int
  | R, [], _ => ⟨[], rfl⟩
  | R, x :: xs, h => by
    have h' : WShape.has R x .int = true ∧ WShape.hasItems R xs .int = true := by simpa [WShape.hasItems] using h
    obtain ⟨i, rfl⟩ := hasW_int h'.1
    obtain ⟨zs, rfl⟩ := items_ints h'.2
    exact ⟨i :: zs, rfl⟩
theorem law_args {args : List WData} (h : theRow.claim.pre args = true) : ∃ zs : List Int, args = [.list (zs.map .int)] ∧ zs.length ≤ 63 := by
  obtain ⟨h1, h2⟩ := pre_splitW h
  obtain ⟨d, r, rfl, hd, hr⟩ := hasAllW_cons h1
  obtain rfl := hasAllW_nil hr
  obtain ⟨xs, rfl, hx⟩ := hasW_list hd
  obtain ⟨zs, rfl⟩ := items_ints hx
  refine ⟨zs, rfl, ?_⟩
  have h3 : WTm.holds theRow.records (.not (.lt (.lit (.int 63)) (.len (.arg 0)))) { args := [.list (zs.map .int)] } = true := (holds_andW h2).1
  by_cases c : zs.length ≤ 63
  · exact c
  · exfalso
    simp only [WTm.holds, WTm.value, List.getElem?_cons_zero, List.length_map] at h3
    rw [show less? (WData.int 63) (WData.int (zs.length : Int)) = some (decide ((63 : Int) < (zs.length : Int))) from rfl, decide_eq_true (by omega)] at h3
    cases h3
/-- a list of ints, read -/
theorem ints_rep {prog : Program} {w : World} {R : WRecords} {cl : Str → Option Addr} {h : Heap} : ∀ {zs : List Int} {vs : List Value} {as : List Addr}, ReadsAllW R cl h vs (zs.map .int) as → RepL prog w h.get? vs (zs.map .int)
  | [], _, _, .nil => .nil
  | z :: zs, _, _, .cons (.int _ t) r => .cons (.int z t) (ints_rep r)
theorem law_vals {prog : Program} {w : World} {R : WRecords} {cl : Str → Option Addr} {h : Heap} {zs : List Int} {vals : List Value} {as : List Addr} (r : ReadsAllW R cl h vals [.list (zs.map .int)] as) : ∃ v, vals = [v] ∧ Rep prog w h.get? v (.lst (zs.map .int)) := by
  cases r with
  | cons r1 r2 =>
    cases r2
    cases r1 with
    | list ho hc hd hr => exact ⟨_, rfl, .lst ho hc hd (ints_rep hr)⟩
theorem law_good {cl : Str → Option Addr} {mean : ExcName → Option Value} {args : List WData} {s₁ s' : Shared} {H' : PHeap} {v : Value} {prog : Program} {w : World} (hg : s₁.gens = #[]) (a : After s₁ s₁.heap.get? s' H') (hv : Rep prog w H' v (.bool true)) :
    GoodWG theRow.claim cl mean args s₁ (.ok (.ret v)) s' := by
  cases hv
  refine ⟨.inl ⟨.bool true, .bool true, [], rfl, fun cls => rfl, .bool true, ?_, fun _ => ⟨.nil, fun _ h => nomatch h⟩⟩, .of_keep a.keep, a.same.1, a.same.2.1 (.of_eq hg)⟩
  show (WShape.has theRow.records (.bool true) .bool && WTm.holds theRow.records (.eq .res (.lit (.bool true))) { args := args, res := some (.bool true), after := args }) = true
  first
    | kernel_rfl
    | simp [WShape.has, WShape.arms, WTm.holds, WTm.value]
end Mine
end

/-! Fn2 -/
section
open PySem PySem.W PyProof.Rows
set_option maxRecDepth 100000
namespace Mine
def vB : List Value := [.type "ValueError", .type "Exception", .type "BaseException", .type "object"]
def tB : List Value := [.type "TypeError", .type "Exception", .type "BaseException", .type "object"]
/-- what is wanted of the exceptions' classes -/
structure AllX (K : Frag) : Prop where
  v : excB K (globK K (nm "BTClibValueError")) vB "Exception.__new__" = true
  t : excB K (globK K (nm "BTClibTypeError")) tB "Exception.__new__" = true
  gv : PySem.W.nsIn K mainGlobals (nm "BTClibValueError") = some (some (.ref (globK K (nm "BTClibValueError"))))
  gt : PySem.W.nsIn K mainGlobals (nm "BTClibTypeError") = some (some (.ref (globK K (nm "BTClibTypeError"))))
theorem excs_of {K : Frag} {h : Heap} (X : AllX K) (G : Gnd K h) : Excs K h where
  v := ⟨vB, "ValueError", "ValueError.__new__", "ValueError.__init__", "Exception", "Exception.__new__", "Exception.__init__", _, PySem.F.excBase_Exception, by decide, PySem.F.excBase_ValueError, by decide, excB_in G.X X.v⟩
  gv := glob_of G.X G.ns2 X.gv
  t := ⟨tB, "TypeError", "TypeError.__new__", "TypeError.__init__", "Exception", "Exception.__new__", "Exception.__init__", _, PySem.F.excBase_Exception, by decide, PySem.F.excBase_TypeError, by decide, excB_in G.X X.t⟩
  gt := glob_of G.X G.ns2 X.gt
theorem room_caller : Room 6 callerA := ⟨rfl, by show 1 + claimMargin + 6 ≤ 900; decide +kernel, by decide⟩
theorem law_fin {q : Program} {loose : List Str} {R R' : WRecords} {cl : Str → Option Addr} {XP : (Str → Option Value) → Heap → Prop} {prog : Program} {w : World} {s₀ s₁ : Shared} {mg mb : Str → Option Value} (G : Ground q loose R XP w s₀ mg mb s₁.heap) {K : Frag} (KX : K.In s₁.heap) (A₀ : AllK w K) (X : AllX K)
    {fa : Addr} (hmg : mg (nm "law") = some (.ref fa)) (hg : s₁.gens = #[]) {args : List WData} {vals : List Value} {as : List Addr} (hpre : theRow.claim.pre args = true) (hrd : ReadsAllW R' cl s₁.heap vals args as) :
    wpC (model prog w) callerA (PySem.call (.ref fa) vals) (fun v s' => GoodWG theRow.claim (classAt s₀.heap) (ExcName.means s₀.heap) args s₁ (.ok (.ret v)) s') (fun e s' => GoodWG theRow.claim (classAt s₀.heap) (ExcName.means s₀.heap) args s₁ (.error e) s') s₁ := by
  have Gd : Gnd K s₁.heap := ⟨KX, G.T.nolimit, mg, mb, G.T.g, G.T.b, G.T.builtins⟩
  have e := eq_of_beq (and_split (List.all_eq_true.mp A₀.defs "law" (by decide))).2
  have e2 := mg_of KX G.T.g e
  rw [hmg] at e2
  cases e2
  obtain ⟨zs, rfl, hz⟩ := law_args hpre
  obtain ⟨v, rfl, hv⟩ := law_vals (prog := prog) (w := w) hrd
  exact law_walk (H := s₁.heap.get?) A₀ Gd (fun n => base_ok (base_of A₀ Gd)) (excs_of X Gd) hz room_caller rfl ⟨Keep.refl _, fun _ _ z => z, fun _ _ z => z⟩ hv fun v s' H' a hv => law_good hg a hv
end Mine
end

/-! Final -/
section
open PySem PySem.W PyProof.Rows
set_option maxRecDepth 100000
namespace Mine
set_option maxHeartbeats 8000000 in
theorem head : PySem.Challenge.rw_ez0019_01.Holds := by
  w_on
  o_law
  k_head
  (case hw => w_witness2)
  k_fill
  intro w s₀ s₁ mg mb G Y fa o pm cd doc dV kV ho hd hcd hD hmg hg args vals as hpre hlay hrd hwl hlo
  have KX := kIn_of Y
  refine law_fin G KX ?allk ?allx hmg hg hpre hrd
  case allx => exact ⟨by kernel_rfl, by kernel_rfl, by kernel_rfl, by kernel_rfl⟩
  case allk =>
    refine AllK.mk ?defs ?body ?simp ?blts ?cls ?clsK ?readF ?readB ?checkF ?checkD ?bio ?initF ?initB ?newF ?newD ?isi ?bfoB ?asmB ?asmB2 ?fb ?fh ?n1 ?n2 ?n3 ?n4 ?d1 ?d2 ?d3 ?d4
    (case defs => kernel_rfl)
    (case body => (intro f hf; simp only [defN, List.mem_cons, List.not_mem_nil, or_false] at hf; rcases hf with h | h | h | h | h | h | h | h | h | h | h | h | h | h | h | h | h | h | h | h | h | h | h | h | h | h | h | h | h | h | h | h | h | h | h | h | h | h <;> subst h <;> exact ⟨by kernel_rfl, by kernel_rfl, by kernel_rfl⟩))
    (case simp => kernel_rfl)
    (case blts => kernel_rfl)
    (case cls => kernel_rfl)
    (case clsK => (constructor <;> kernel_rfl))
    (case readF => exact ⟨by kernel_rfl, by kernel_rfl, by kernel_rfl, by kernel_rfl⟩)
    (case readB => (intro st v1 v2; kernel_rfl))
    (case checkF => exact ⟨by kernel_rfl, by kernel_rfl, by kernel_rfl, by kernel_rfl⟩)
    (case checkD => exact ⟨by kernel_rfl, by kernel_rfl⟩)
    (case bio => (refine BioK.mk ?b_obj ?b_here ?b_base ?b_baseM ?b_top ?b_made ?b_call ?b_typ ?b_self ?b_reads ?b_newE ?b_sm ?b_init ?b_initF ?b_objE; (case b_obj => (intros; kernel_rfl)); (case b_here => (intros; kernel_rfl)); (case b_base => (intros; kernel_rfl)); (case b_baseM => (intros; kernel_rfl)); (case b_top => (intros; kernel_rfl)); (case b_made => (intros; kernel_rfl)); (case b_call => (intros; kernel_rfl)); (case b_typ => (intros; kernel_rfl)); (case b_self => (intros; kernel_rfl)); (case b_reads => (intros; kernel_rfl)); (case b_newE => (intros; kernel_rfl)); (case b_sm => (intros; kernel_rfl)); (case b_init => (intros; kernel_rfl)); (case b_initF => (intros; kernel_rfl)); (case b_objE => (intros; kernel_rfl))))
    (case initF => exact ⟨by kernel_rfl, by kernel_rfl, by kernel_rfl, by kernel_rfl⟩)
    (case initB => (intro st v1 v2; kernel_rfl))
    (case newF => exact ⟨by kernel_rfl, by kernel_rfl, by kernel_rfl, by kernel_rfl⟩)
    (case newD => exact ⟨by kernel_rfl, by kernel_rfl⟩)
    (case isi => kernel_rfl)
    (case bfoB => (intro st v; kernel_rfl))
    (case asmB => (intro st v; kernel_rfl))
    (case asmB2 => (intro st v u; kernel_rfl))
    (case fb => kernel_rfl)
    (case fh => kernel_rfl)
    (case n1 => kernel_rfl)
    (case n2 => kernel_rfl)
    (case n3 => kernel_rfl)
    (case n4 => kernel_rfl)
    (case d1 => exact ⟨by kernel_rfl, by kernel_rfl⟩)
    (case d2 => exact ⟨by kernel_rfl, by kernel_rfl⟩)
    (case d3 => exact ⟨by kernel_rfl, by kernel_rfl⟩)
    (case d4 => exact ⟨by kernel_rfl, by kernel_rfl⟩)
end Mine
end

theorem PySem.Challenge.cw_ez0019_01_holds : PySem.Challenge.rw_ez0019_01.Holds := by
  exact Mine.head
