import PyProof.Rows.All
import Wide.All
import OpenK.AllK
import Wide.FinOn
import Lean
import PySem.Challenge.RW_un0035_01
set_option maxRecDepth 100000
set_option Elab.async false
set_option linter.all false

namespace Mine
open PySem

/-- the built-in values that are called or compared by name -/
inductive BI where
  | tType | tStr | tBytes | tInt | tList | tRange | tEnum | tZip | tVE | issub | isinst | len
noncomputable def BI.val : BI → Value
  | .tType => .type "type" | .tStr => .type "str" | .tBytes => .type "bytes" | .tInt => .type "int" | .tList => .type "list"
  | .tRange => .type "range" | .tEnum => .type "enumerate" | .tZip => .type "zip"
  | .tVE => .type "ValueError" | .issub => .builtin "issubclass" | .isinst => .builtin "isinstance" | .len => .builtin "len"

/-- abstract values -/
inductive AV where
  | none | bool (b : Bool) | int (i : Int) | str (s : Str) | obj (k : Nat) | fn (a : Addr) | bi (k : BI) | gref (a : Addr)
/-- abstract objects -/
inductive AObj where
  | list (xs : List AV) | flist (xs : List AV) | tup (xs : List AV) | ns (m : List (Str × AV)) | cell (v : Option AV)
inductive AFlow where
  | next | brk | cont | ret (v : AV)
noncomputable abbrev Hp := List AObj

noncomputable def nbeq : List Nat → List Nat → Bool
  | [], [] => true
  | a :: l, b :: r => match Nat.beq a b with | true => nbeq l r | false => false
  | _, _ => false
noncomputable def seq (a b : Str) : Bool := nbeq a.cps.toList b.cps.toList
noncomputable def lkp {α : Type} (x : Str) : List (Str × α) → Option α
  | [] => none
  | (y, v) :: r => match seq x y with | true => some v | false => lkp x r
noncomputable def putv (x : Str) (v : AV) : List (Str × AV) → List (Str × AV)
  | [] => [(x, v)]
  | (y, u) :: r => match seq x y with | true => (y, v) :: r | false => (y, u) :: putv x v r

structure AEnv where
  names : List (Str × NameKind)
  locals : Nat
  cells : List (Str × Nat)

structure Cx where
  glob : List (Str × AV)
  fn : Addr → Option FuncData
  orc : Addr → List AV → Option AV
  orcL : Addr → List AV → Option (List AV)
  gtup : Addr → Option (List AV)
  r : Nat

noncomputable def dbg : Str := Str.ofString "__debug__"
noncomputable def cdn : Str := Str.ofString "__classdict__"
noncomputable def rdVar (cx : Cx) (ae : AEnv) (H : Hp) (x : Str) : Option AV :=
  match lkp x ae.names with
  | some .local => match H[ae.locals]? with | some (.ns m) => lkp x m | _ => none
  | some .cell => match lkp x ae.cells with | some k => (match H[k]? with | some (.cell v) => v | _ => none) | none => none
  | some .free => match seq x cdn with | true => none | false => match lkp x ae.cells with | some k => (match H[k]? with | some (.cell v) => v | _ => none) | none => none
  | some .globalImplicit => lkp x cx.glob
  | _ => none
noncomputable def wrVar (ae : AEnv) (H : Hp) (x : Str) (v : AV) : Option Hp :=
  match lkp x ae.names with
  | some .local => match H[ae.locals]? with | some (.ns m) => some (H.set ae.locals (.ns (putv x v m))) | _ => none
  | some .cell => match lkp x ae.cells with | some k => (match H[k]? with | some (.cell _) => some (H.set k (.cell (some v))) | _ => none) | none => none
  | _ => none

/-- the items of a list or a tuple -/
noncomputable def rdSeq (H : Hp) (k : Nat) : Option (List AV) := match H[k]? with
  | some (.list xs) => some xs | some (.flist xs) => some xs | some (.tup xs) => some xs | _ => none
noncomputable def rdList (H : Hp) (k : Nat) : Option (List AV) := match H[k]? with
  | some (.list xs) => some xs | some (.flist xs) => some xs | _ => none

noncomputable def both : Option Bool → Option Bool → Option Bool
  | some a, some b => some (a && b)
  | _, _ => none
noncomputable def either : Option Bool → Option Bool → Option Bool
  | some a, some b => some (a || b)
  | _, _ => none
noncomputable def allM (f : AV → AV → Option Bool) : List AV → List AV → Option Bool
  | [], [] => some true
  | x :: xs, y :: ys => both (f x y) (allM f xs ys)
  | _, _ => none
noncomputable def aeqL (H : Hp) (f : AV → AV → Option Bool) (k l : Nat) : Option Bool := match rdList H k with
  | some xs => match rdList H l with
    | some ys => match Nat.beq xs.length ys.length with | true => allM f xs ys | false => some false
    | none => none
  | none => none
/-! views: what a value, a number, a list is -/
noncomputable def bool? (a : AV) : Option Bool := AV.casesOn (motive := fun _ => Option Bool) a none some (fun _ => none) (fun _ => none) (fun _ => none) (fun _ => none) (fun _ => none) (fun _ => none)
noncomputable def int? (a : AV) : Option Int := AV.casesOn (motive := fun _ => Option Int) a none (fun _ => none) some (fun _ => none) (fun _ => none) (fun _ => none) (fun _ => none) (fun _ => none)
noncomputable def str? (a : AV) : Option Str := AV.casesOn (motive := fun _ => Option Str) a none (fun _ => none) (fun _ => none) some (fun _ => none) (fun _ => none) (fun _ => none) (fun _ => none)
noncomputable def obj? (a : AV) : Option Nat := AV.casesOn (motive := fun _ => Option Nat) a none (fun _ => none) (fun _ => none) (fun _ => none) some (fun _ => none) (fun _ => none) (fun _ => none)
noncomputable def bi? (a : AV) : Option BI := AV.casesOn (motive := fun _ => Option BI) a none (fun _ => none) (fun _ => none) (fun _ => none) (fun _ => none) (fun _ => none) some (fun _ => none)
noncomputable def natI? (i : Int) : Option Nat := Int.casesOn (motive := fun _ => Option Nat) i some fun _ => none
noncomputable def nat? (a : AV) : Option Nat := match int? a with | some i => natI? i | none => none
noncomputable def one? {α : Type} (l : List α) : Option α := List.casesOn (motive := fun _ => Option α) l none fun a r => List.casesOn (motive := fun _ => Option α) r (some a) fun _ _ => none
noncomputable def pair? (l : List AV) : Option (AV × AV) := List.casesOn (motive := fun _ => Option (AV × AV)) l none fun a r => match one? r with | some b => some (a, b) | none => none
noncomputable def aeqI (i : Int) (b : AV) : Option Bool := match int? b with | some j => some (decide (i = j)) | none => none
noncomputable def aeqS (x : Str) (b : AV) : Option Bool := match str? b with | some y => some (seq x y) | none => none
noncomputable def aeqB (x : Bool) (b : AV) : Option Bool := match bool? b with | some y => some (x == y) | none => none
noncomputable def aeqO (H : Hp) (f : AV → AV → Option Bool) (k : Nat) (b : AV) : Option Bool := match obj? b with | some l => aeqL H f k l | none => none
noncomputable def aeq1 (H : Hp) (f : AV → AV → Option Bool) (a b : AV) : Option Bool := AV.casesOn (motive := fun _ => Option Bool) a none (fun x => aeqB x b) (fun i => aeqI i b) (fun x => aeqS x b) (fun k => aeqO H f k b) (fun _ => none) (fun _ => none) (fun _ => none)
noncomputable def aeq (H : Hp) : Nat → AV → AV → Option Bool
  | 0 => fun _ _ => none
  | n + 1 => aeq1 H (aeq H n)
noncomputable def isIn (f : AV → Option Bool) : List AV → Option Bool
  | [] => some false
  | x :: xs => either (f x) (isIn f xs)

noncomputable def truthO (H : Hp) (k : Nat) : Option Bool := match rdList H k with | some xs => some (!xs.isEmpty) | none => none
noncomputable def truth (H : Hp) (a : AV) : Option Bool := AV.casesOn (motive := fun _ => Option Bool) a (some false) some (fun i => some (!decide (i = 0))) (fun x => some (!x.cps.toList.isEmpty)) (fun k => truthO H k) (fun _ => none) (fun _ => none) (fun _ => none)

/-- sizes stay small -/
noncomputable def okL {α : Type} (xs : List α) : Bool := Nat.ble xs.length 1048576
noncomputable def mkS (l : List Nat) : Option AV := match okL l with | true => some (.str ⟨⟨l⟩⟩) | false => none
noncomputable def allocL (H : Hp) (xs : List AV) : Option (AV × Hp) := match okL xs with | true => some (.obj H.length, H ++ [.list xs]) | false => none
noncomputable def allocT (H : Hp) (xs : List AV) : Option (AV × Hp) := match okL xs with | true => some (.obj H.length, H ++ [.tup xs]) | false => none
noncomputable def withH (H : Hp) : Option AV → Option (AV × Hp)
  | some v => some (v, H)
  | none => none
noncomputable def repl {α : Type} (xs : List α) : Nat → List α
  | 0 => []
  | n + 1 => xs ++ repl xs n

noncomputable def addI (H : Hp) (i : Int) (b : AV) : Option (AV × Hp) := match int? b with | some j => some (.int (i + j), H) | none => none
noncomputable def addS (H : Hp) (x : Str) (b : AV) : Option (AV × Hp) := match str? b with | some y => withH H (mkS (x.cps.toList ++ y.cps.toList)) | none => none
noncomputable def addO (H : Hp) (k : Nat) (b : AV) : Option (AV × Hp) := match obj? b with
  | some l => match rdList H k with
    | some xs => match rdList H l with | some ys => allocL H (xs ++ ys) | none => none
    | none => none
  | none => none
noncomputable def addA (H : Hp) (a b : AV) : Option (AV × Hp) := AV.casesOn (motive := fun _ => Option (AV × Hp)) a none (fun _ => none) (fun i => addI H i b) (fun x => addS H x b) (fun k => addO H k b) (fun _ => none) (fun _ => none) (fun _ => none)
noncomputable def subA (H : Hp) (a b : AV) : Option (AV × Hp) := match int? a with
  | some i => match int? b with | some j => some (.int (i - j), H) | none => none
  | none => none
noncomputable def mulI (H : Hp) (i : Int) (b : AV) : Option (AV × Hp) := match natI? i with
  | some n => match Nat.ble n 1048576 with
    | true => match int? b with | some j => some (.int (.ofNat n * j), H) | none => none
    | false => none
  | none => none
noncomputable def mulO (H : Hp) (k : Nat) (b : AV) : Option (AV × Hp) := match rdList H k with
  | some xs => match nat? b with
    | some n => match Nat.ble n 1048576 with | true => allocL H (repl xs n) | false => none
    | none => none
  | none => none
noncomputable def mulA (H : Hp) (a b : AV) : Option (AV × Hp) := AV.casesOn (motive := fun _ => Option (AV × Hp)) a none (fun _ => none) (fun i => mulI H i b) (fun _ => none) (fun k => mulO H k b) (fun _ => none) (fun _ => none) (fun _ => none)
noncomputable def modA (H : Hp) (a b : AV) : Option (AV × Hp) := match int? a with
  | some i => match nat? b with
    | some n => match Nat.ble 1 n with | true => some (.int (Int.fmod i (.ofNat n)), H) | false => none
    | none => none
  | none => none
noncomputable def shrA (H : Hp) (a b : AV) : Option (AV × Hp) := match nat? a with
  | some m => match nat? b with | some n => some (.int (.ofNat (m >>> n)), H) | none => none
  | none => none
noncomputable def andA (H : Hp) (a b : AV) : Option (AV × Hp) := match nat? a with
  | some m => match nat? b with | some n => some (.int (.ofNat (m &&& n)), H) | none => none
  | none => none
noncomputable def binop (H : Hp) (op : Operator) (a b : AV) : Option (AV × Hp) := match op with
  | .Add => addA H a b
  | .Sub => subA H a b
  | .Mult => mulA H a b
  | .Mod => modA H a b
  | .RShift => shrA H a b
  | .BitAnd => andA H a b
  | _ => none

noncomputable def ltA (a b : AV) : Option Bool := match int? a with
  | some i => match int? b with | some j => some (decide (i < j)) | none => none
  | none => none
noncomputable def inA (H : Hp) (a b : AV) : Option Bool := match obj? b with
  | some k => match rdList H k with | some xs => isIn (fun x => aeq H 8 x a) xs | none => none
  | none => none
noncomputable def cmpop (H : Hp) (op : CmpOp) (a b : AV) : Option Bool := match op with
  | .Eq => aeq H 8 a b
  | .NotEq => (aeq H 8 a b).map (!·)
  | .Lt => ltA a b
  | .In => inA H a b
  | .NotIn => (inA H a b).map (!·)
  | _ => none

/-- a place, counted from behind if below nought -/
noncomputable def place (n : Nat) : Int → Option Nat
  | .ofNat i => if i < n then some i else none
  | .negSucc i => if i < n then some (n - 1 - i) else none
noncomputable def idxS (x : Str) (i : Int) : Option AV := match place x.cps.toList.length i with
  | some j => match x.cps.toList[j]? with | some c => some (.str ⟨⟨[c]⟩⟩) | none => none
  | none => none
noncomputable def idxO (H : Hp) (k : Nat) (i : Int) : Option AV := match rdSeq H k with
  | some xs => match place xs.length i with | some j => xs[j]? | none => none
  | none => none
noncomputable def index (H : Hp) (o : AV) (i : Int) : Option AV := AV.casesOn (motive := fun _ => Option AV) o none (fun _ => none) (fun _ => none) (fun x => idxS x i) (fun k => idxO H k i) (fun _ => none) (fun _ => none) (fun _ => none)
noncomputable def cut {α : Type} (xs : List α) (lo hi : Option Nat) : List α :=
  let ys := match hi with | some h => xs.take h | none => xs
  match lo with | some l => ys.drop l | none => ys
noncomputable def cutOk (n : Nat) (lo hi : Option Nat) : Bool := match lo, hi with
  | none, none => true
  | some a, none => Nat.ble a n
  | none, some b => Nat.ble b n
  | some a, some b => Nat.ble a b && Nat.ble b n
/-- a list's cut may end beyond the list -/
noncomputable def cutOkL (n : Nat) (lo hi : Option Nat) : Bool := match lo with
  | none => true
  | some a => cutOk n (some a) hi
noncomputable def slcS (H : Hp) (x : Str) (lo hi : Option Nat) : Option (AV × Hp) := match cutOk x.cps.toList.length lo hi with | true => withH H (mkS (cut x.cps.toList lo hi)) | false => none
noncomputable def slcO (H : Hp) (k : Nat) (lo hi : Option Nat) : Option (AV × Hp) := match rdList H k with
  | some xs => match cutOkL xs.length lo hi with | true => allocL H (cut xs lo hi) | false => none
  | none => none
noncomputable def slice (H : Hp) (o : AV) (lo hi : Option Nat) : Option (AV × Hp) := AV.casesOn (motive := fun _ => Option (AV × Hp)) o none (fun _ => none) (fun _ => none) (fun x => slcS H x lo hi) (fun k => slcO H k lo hi) (fun _ => none) (fun _ => none) (fun _ => none)

noncomputable def splitOn (c : Nat) : List Nat → List Nat → List (List Nat)
  | acc, [] => [acc.reverse]
  | acc, x :: r => match Nat.beq x c with | true => acc.reverse :: splitOn c [] r | false => splitOn c (x :: acc) r
noncomputable def countOf (c : Nat) : List Nat → Nat
  | [] => 0
  | x :: r => match Nat.beq x c with | true => countOf c r + 1 | false => countOf c r
noncomputable def pre : List Nat → List Nat → Bool
  | [], _ => true
  | a :: l, b :: r => match Nat.beq a b with | true => pre l r | false => false
  | _ :: _, [] => false
noncomputable def strsOf : List AV → Option (List Str)
  | [] => some []
  | a :: r => match str? a with
    | some x => match strsOf r with | some l => some (x :: l) | none => none
    | none => none
noncomputable def joinL (sep : List Nat) : List Str → List Nat
  | [] => []
  | [x] => x.cps.toList
  | x :: r => x.cps.toList ++ sep ++ joinL sep r
inductive Meth where
  | startswith | endswith | split | join | count | append | pop
noncomputable def methTab : List (Str × Meth) := [("append", .append), ("pop", .pop), ("startswith", .startswith), ("endswith", .endswith), ("split", .split), ("join", .join), ("count", .count)]
noncomputable def mStarts (H : Hp) (o : AV) (vs : List AV) (f : List Nat → List Nat) : Option (AV × Hp) := match str? o with
  | some x => match one? vs with
    | some u => match str? u with | some y => some (.bool (pre (f y.cps.toList) (f x.cps.toList)), H) | none => none
    | none => none
  | none => none
noncomputable def mSplit (H : Hp) (o : AV) (vs : List AV) : Option (AV × Hp) := match str? o with
  | some x => match one? vs with
    | some u => match str? u with
      | some y => match one? y.cps.toList with | some c => allocL H ((splitOn c [] x.cps.toList).map fun l => .str ⟨⟨l⟩⟩) | none => none
      | none => none
    | none => none
  | none => none
noncomputable def mCount (H : Hp) (o : AV) (vs : List AV) : Option (AV × Hp) := match str? o with
  | some x => match one? vs with
    | some u => match str? u with
      | some y => match one? y.cps.toList with | some c => some (.int (.ofNat (countOf c x.cps.toList)), H) | none => none
      | none => none
    | none => none
  | none => none
noncomputable def mJoin (H : Hp) (o : AV) (vs : List AV) : Option (AV × Hp) := match str? o with
  | some x => match one? vs with
    | some u => match obj? u with
      | some k => match rdList H k with
        | some xs => match strsOf xs with | some l => withH H (mkS (joinL x.cps.toList l)) | none => none
        | none => none
      | none => none
    | none => none
  | none => none
noncomputable def mAppend (H : Hp) (o : AV) (vs : List AV) : Option (AV × Hp) := match obj? o with
  | some k => match one? vs with
    | some v => match H[k]? with
      | some (.list xs) => (match okL (xs ++ [v]) with | true => some (.none, H.set k (.list (xs ++ [v]))) | false => none)
      | _ => none
    | none => none
  | none => none
noncomputable def mPop (H : Hp) (o : AV) (vs : List AV) : Option (AV × Hp) := match obj? o with
  | some k => match vs.isEmpty with
    | true => match H[k]? with
      | some (.list xs) => match xs.getLast? with | some v => some (v, H.set k (.list xs.dropLast)) | none => none
      | _ => none
    | false => none
  | none => none
noncomputable def method (H : Hp) (o : AV) (m : Meth) (vs : List AV) : Option (AV × Hp) := match m with
  | .startswith => mStarts H o vs id
  | .endswith => mStarts H o vs List.reverse
  | .split => mSplit H o vs
  | .join => mJoin H o vs
  | .count => mCount H o vs
  | .append => mAppend H o vs
  | .pop => mPop H o vs

noncomputable def typeOfAV (a : AV) : Option BI := AV.casesOn (motive := fun _ => Option BI) a none (fun _ => none) (fun _ => some .tInt) (fun _ => some .tStr) (fun _ => none) (fun _ => none) (fun _ => none) (fun _ => none)
noncomputable def isTStr (b : BI) : Bool := match b with | .tStr => true | _ => false
noncomputable def isTBytes (b : BI) : Bool := match b with | .tBytes => true | _ => false
noncomputable def bType (H : Hp) (vs : List AV) : Option (AV × Hp) := match one? vs with
  | some v => match typeOfAV v with | some t => some (.bi t, H) | none => none
  | none => none
noncomputable def bIssub (H : Hp) (vs : List AV) : Option (AV × Hp) := match pair? vs with
  | some (u, o) => match bi? u with
    | some t => match obj? o with
      | some k => match H[k]? with
        | some (.tup xs) => match pair? xs with
          | some (a, b) => match bi? a with
            | some p => match bi? b with
              | some q => match isTStr t && isTStr p && isTBytes q with | true => some (.bool true, H) | false => none
              | none => none
            | none => none
          | none => none
        | _ => none
      | none => none
    | none => none
  | none => none
noncomputable def bIsinst (H : Hp) (vs : List AV) : Option (AV × Hp) := match pair? vs with
  | some (u, o) => match str? u with
    | some _ => match bi? o with
      | some q => match isTBytes q with | true => some (.bool false, H) | false => none
      | none => none
    | none => none
  | none => none
noncomputable def lenO (H : Hp) (k : Nat) : Option (AV × Hp) := match rdList H k with | some xs => some (.int (.ofNat xs.length), H) | none => none
noncomputable def lenA (H : Hp) (a : AV) : Option (AV × Hp) := AV.casesOn (motive := fun _ => Option (AV × Hp)) a none (fun _ => none) (fun _ => none) (fun x => some (.int (.ofNat x.cps.toList.length), H)) (fun k => lenO H k) (fun _ => none) (fun _ => none) (fun _ => none)
noncomputable def bLen (H : Hp) (vs : List AV) : Option (AV × Hp) := match one? vs with | some v => lenA H v | none => none
noncomputable def bStr (H : Hp) (vs : List AV) : Option (AV × Hp) := match one? vs with
  | some v => match nat? v with
    | some n => match Nat.blt n 10 with | true => some (.str ⟨⟨[48 + n]⟩⟩, H) | false => none
    | none => none
  | none => none
noncomputable def bInt (H : Hp) (vs : List AV) : Option (AV × Hp) := match one? vs with
  | some v => match str? v with
    | some x => match one? x.cps.toList with
      | some c => match Nat.ble 48 c && Nat.blt c 58 with | true => some (.int (.ofNat (c - 48)), H) | false => none
      | none => none
    | none => none
  | none => none
noncomputable def bList (H : Hp) (vs : List AV) : Option (AV × Hp) := match one? vs with
  | some v => match obj? v with
    | some k => match rdList H k with | some xs => allocL H xs | none => none
    | none => none
  | none => none
noncomputable def builtin (H : Hp) (b : BI) (vs : List AV) : Option (AV × Hp) := match b with
  | .tType => bType H vs
  | .issub => bIssub H vs
  | .isinst => bIsinst H vs
  | .len => bLen H vs
  | .tStr => bStr H vs
  | .tInt => bInt H vs
  | .tList => bList H vs
  | _ => none

/-! The text, once over, in small words: the kernel goes through these quickly. -/
inductive X where
  | const (c : AV)
  | name (x : Str)
  | bool (op : BoolOp) (vs : List X)
  | bin (l : X) (op : Operator) (r : X)
  | not (a : X)
  | neg (a : X)
  | ite (c a b : X)
  | list (vs : List X)
  | tup (vs : List X)
  | cmp (l : X) (op : CmpOp) (r : X)
  | comp (elt : X) (x : Str) (iter : X) (ifs : List X) (names : List (Str × NameKind))
  | item (o i : X)
  | slice (o : X) (lo hi : Option X)
  | rev (o : X)
  | meth (o : X) (m : Meth) (args : List X)
  | call (f : Str) (args : List X)
  | star (e : X)
  | bad
inductive Tgt where
  | one (x : Str) | many (xs : List Str) | bad
inductive XS where
  | expr (e : X) | ret (e : X) | asg (t : Tgt) (e : X) | aug (x : Str) (e : X)
  | ite (c : X) (a b : List XS) | whl (c : X) (a : List XS) | for (t : Tgt) (iter : X) (body els : List XS)
  | enum (x y : Str) (src : X) (body els : List XS) | tri (body : List XS) | brk | cont | pass | bad

noncomputable def cStr (s : Str) : X := match okL s.cps.toList with | true => .const (.str s) | false => .bad
noncomputable def cConst (c : Const) : X := match c with | .none => .const .none | .bool b => .const (.bool b) | .int i => .const (.int i) | .str s => cStr s | _ => .bad
noncomputable def nameP (e : PySem.Expr) : Option {q : Str × Pos // e = .Name q.1 q.2} := match e with | .Name x p => some ⟨(x, p), rfl⟩ | _ => none
noncomputable def name? (e : PySem.Expr) : Option (Str) := (nameP e).map fun q => q.1.1
noncomputable def tupP (e : PySem.Expr) : Option {q : List PySem.Expr × Nat × Pos // e = .Tuple q.1 q.2.1 q.2.2} := match e with | .Tuple es k p => some ⟨(es, k, p), rfl⟩ | _ => none
noncomputable def tup? (e : PySem.Expr) : Option (List PySem.Expr) := (tupP e).map fun q => q.1.1
noncomputable def callP (e : PySem.Expr) : Option {q : PySem.Expr × List PySem.Expr × List Keyword × Pos // e = .Call q.1 q.2.1 q.2.2.1 q.2.2.2} := match e with | .Call g args kw p => some ⟨(g, args, kw, p), rfl⟩ | _ => none
noncomputable def call? (e : PySem.Expr) : Option (PySem.Expr × List PySem.Expr × List Keyword) := (callP e).map fun q => (q.1.1, q.1.2.1, q.1.2.2.1)
noncomputable def attrP (e : PySem.Expr) : Option {q : PySem.Expr × Str × Pos // e = .Attribute q.1 q.2.1 q.2.2} := match e with | .Attribute o a p => some ⟨(o, a, p), rfl⟩ | _ => none
noncomputable def attr? (e : PySem.Expr) : Option (PySem.Expr × Str × Pos) := (attrP e).map fun q => q.1
noncomputable def sliceP (e : PySem.Expr) : Option {q : Option PySem.Expr × Option PySem.Expr × Option PySem.Expr × Pos // e = .Slice q.1 q.2.1 q.2.2.1 q.2.2.2} := match e with | .Slice lo hi st p => some ⟨(lo, hi, st, p), rfl⟩ | _ => none
noncomputable def slice? (e : PySem.Expr) : Option (Option PySem.Expr × Option PySem.Expr × Option PySem.Expr) := (sliceP e).map fun q => (q.1.1, q.1.2.1, q.1.2.2.1)
noncomputable def unP (e : PySem.Expr) : Option {q : PySem.UnaryOp × PySem.Expr × Pos // e = .UnaryOp q.1 q.2.1 q.2.2} := match e with | .UnaryOp op a p => some ⟨(op, a, p), rfl⟩ | _ => none
noncomputable def un? (e : PySem.Expr) : Option (PySem.UnaryOp × PySem.Expr) := (unP e).map fun q => (q.1.1, q.1.2.1)
noncomputable def constP (e : PySem.Expr) : Option {q : Const × Nat × Pos // e = .Constant q.1 q.2.1 q.2.2} := match e with | .Constant c k p => some ⟨(c, k, p), rfl⟩ | _ => none
noncomputable def const? (e : PySem.Expr) : Option (Const) := (constP e).map fun q => q.1.1
noncomputable def starP (e : PySem.Expr) : Option {q : PySem.Expr × Pos // e = .Starred q.1 q.2} := match e with | .Starred e1 p => some ⟨(e1, p), rfl⟩ | _ => none
noncomputable def star? (e : PySem.Expr) : Option (PySem.Expr) := (starP e).map fun q => q.1.1
noncomputable def isUSub (o : PySem.UnaryOp) : Bool := match o with | .USub => true | _ => false
noncomputable def is1 (c : Const) : Bool := match c with | .int i => decide (i = 1) | _ => false
noncomputable def minus1 (e : PySem.Expr) : Bool := match un? e with
  | some (op, a) => match const? a with | some c => isUSub op && is1 c | none => false
  | none => false
noncomputable def cSl (f : PySem.Expr → X) (o : PySem.Expr) (lo hi st : Option PySem.Expr) : X := match st with
  | none => .slice (f o) (lo.map f) (hi.map f)
  | some e => match lo.isNone && hi.isNone && minus1 e with | true => .rev (f o) | false => .bad
noncomputable def cSub (f : PySem.Expr → X) (o : PySem.Expr) (i : PySem.Expr) : X := match slice? i with
  | some (lo, hi, st) => cSl f o lo hi st
  | none => .item (f o) (f i)
noncomputable def superName : Str := Str.ofString "super"
noncomputable def notSuper (e : PySem.Expr) : Bool := match call? e with
  | some (g, _, _) => match name? g with | some x => !seq x superName | none => true
  | none => true
noncomputable def cCall (f : PySem.Expr → X) (args : List PySem.Expr) (pos : Pos) (g : PySem.Expr) : X := match name? g with
  | some x => .call x (args.map f)
  | none => match attr? g with
    | some (o, name, apos) => match Nat.beq apos.endLine pos.line && notSuper o with
      | true => match lkp name methTab with | some m => .meth (f o) m (args.map f) | none => .bad
      | false => .bad
    | none => .bad
noncomputable def nodupN : List (Str × NameKind) → Bool
  | [] => true
  | (x, _) :: r => match lkp x r with | some _ => false | none => nodupN r
noncomputable def scopeOk (scope : Scope) : Bool := match scope.kind with
  | .function => nodupN scope.names
  | _ => false
noncomputable def cComp (f : PySem.Expr → X) (elt : PySem.Expr) (scope : Scope) (gens : List Comprehension) : X := match one? gens with
  | some g => match decide (g.is_async = 0) && scopeOk scope with
    | true => match name? g.target with | some x => .comp (f elt) x (f g.iter) (g.ifs.map f) scope.names | none => .bad
    | false => .bad
  | none => .bad
noncomputable def cCmp (f : PySem.Expr → X) (l : PySem.Expr) (ops : List CmpOp) (rs : List PySem.Expr) : X := match one? ops with
  | some op => match one? rs with | some r => .cmp (f l) op (f r) | none => .bad
  | none => .bad
noncomputable def cUn (f : PySem.Expr → X) (op : PySem.UnaryOp) (a : PySem.Expr) : X := match op with | .Not => .not (f a) | .USub => .neg (f a) | _ => .bad
noncomputable def cCall0 (f : PySem.Expr → X) (g : PySem.Expr) (args : List PySem.Expr) (kw : List Keyword) (pos : Pos) : X := match kw.isEmpty with | true => cCall f args pos g | false => .bad
noncomputable def cE1 (f : PySem.Expr → X) : PySem.Expr → X
  | .Constant c _ _ => cConst c
  | .Name x _ => .name x
  | .BoolOp op vs _ => .bool op (vs.map f)
  | .BinOp l op r _ => .bin (f l) op (f r)
  | .UnaryOp op a _ => cUn f op a
  | .IfExp c a b _ => .ite (f c) (f a) (f b)
  | .List elts _ => .list (elts.map f)
  | .Tuple elts _ _ => .tup (elts.map f)
  | .Compare l ops rs _ => cCmp f l ops rs
  | .ListComp elt gens scope _ => cComp f elt scope gens
  | .Subscript o s _ => cSub f o s
  | .Call g args kw pos => cCall0 f g args kw pos
  | .Starred e _ => .star (f e)
  | _ => .bad
noncomputable def cE : Nat → PySem.Expr → X
  | 0 => fun _ => .bad
  | n + 1 => cE1 (cE n)
noncomputable def namesOf? : List PySem.Expr → Option (List Str)
  | [] => some []
  | e :: r => match name? e with
    | some x => match namesOf? r with | some l => some (x :: l) | none => none
    | none => none
noncomputable def cTgt (e : PySem.Expr) : Tgt := match name? e with
  | some x => .one x
  | none => match tup? e with
    | some elts => match namesOf? elts with | some xs => .many xs | none => .bad
    | none => .bad
noncomputable def unpackable (e : PySem.Expr) : Bool := (call? e).isSome || (name? e).isSome
noncomputable def cAsg (f : PySem.Expr → X) (e : PySem.Expr) (t : PySem.Expr) : XS := match name? t with
  | some x => .asg (.one x) (f e)
  | none => match tup? t with
    | some elts => match namesOf? elts with
      | some xs => match unpackable e with | true => .asg (.many xs) (f e) | false => .bad
      | none => .bad
    | none => .bad
noncomputable def enumName : Str := Str.ofString "enumerate"
noncomputable def enumOf? (e : PySem.Expr) : Option PySem.Expr := match call? e with
  | some (g, args, kw) => match name? g with
    | some x => match kw.isEmpty && seq x enumName with | true => one? args | false => none
    | none => none
  | none => none
noncomputable def names2 (l : List Str) : Option (Str × Str) := List.casesOn (motive := fun _ => Option (Str × Str)) l none fun a r => match one? r with | some b => some (a, b) | none => none
noncomputable def two? (t : PySem.Expr) : Option (Str × Str) := match tup? t with
  | some es => match namesOf? es with | some l => names2 l | none => none
  | none => none
noncomputable def cFor (f : PySem.Expr → X) (t iter : PySem.Expr) (body els : List XS) : XS := match enumOf? iter with
  | some src => match two? t with | some (x, y) => .enum x y (f src) body els | none => .bad
  | none => .for (cTgt t) (f iter) body els
noncomputable def cExpr (f : PySem.Expr → X) (e : PySem.Expr) : XS := match (call? e).isSome with | true => .expr (f e) | false => .bad
noncomputable def isAdd (o : Operator) : Bool := match o with | .Add => true | _ => false
noncomputable def cRet (f : PySem.Expr → X) (e : Option PySem.Expr) : XS := match e with | some e => .ret (f e) | none => .bad
noncomputable def cAsgs (f : PySem.Expr → X) (ts : List PySem.Expr) (e : PySem.Expr) : XS := match one? ts with | some t => cAsg f e t | none => .bad
noncomputable def cAug (f : PySem.Expr → X) (t : PySem.Expr) (op : Operator) (e : PySem.Expr) : XS := match name? t with
  | some x => match isAdd op with | true => .aug x (f e) | false => .bad
  | none => .bad
noncomputable def cWhl (c : X) (a b : List XS) : XS := match b.isEmpty with | true => .whl c a | false => .bad
noncomputable def cTry (body : List XS) (hs : List ExceptHandler) (els fin : List Stmt) : XS := match !hs.isEmpty && els.isEmpty && fin.isEmpty with | true => .tri body | false => .bad
noncomputable def cS1 (f : PySem.Expr → X) (g : PySem.Stmt → XS) : PySem.Stmt → XS
  | .Expr e _ => cExpr f e
  | .Return e _ => cRet f e
  | .Assign ts e _ => cAsgs f ts e
  | .AugAssign t op e _ => cAug f t op e
  | .If c a b _ => .ite (f c) (a.map g) (b.map g)
  | .While c a b _ => cWhl (f c) (a.map g) (b.map g)
  | .For t i body els _ => cFor f t i (body.map g) (els.map g)
  | .Try body hs els fin _ => cTry (body.map g) hs els fin
  | .Break _ => .brk
  | .Continue _ => .cont
  | .Pass _ => .pass
  | _ => .bad
noncomputable def cS (m : Nat) : Nat → PySem.Stmt → XS
  | 0 => fun _ => .bad
  | n + 1 => cS1 (cE m) (cS m n)

structure Ev where
  e : AEnv → Hp → X → Option (AV × Hp)
  t : AEnv → Hp → X → Option (Bool × Hp)
  x : AEnv → Hp → List XS → Option (AFlow × Hp)
  c : Hp → Addr → List AV → Option (AV × Hp)

noncomputable def evArg (f : Hp → X → Option (AV × Hp)) (H : Hp) : X → Option (List AV × Hp)
  | .star e => match f H e with
    | some (.obj k, H1) => match rdSeq H1 k with | some xs => some (xs, H1) | none => none
    | _ => none
  | e => match f H e with | some (v, H1) => some ([v], H1) | none => none
noncomputable def evList (f : Hp → X → Option (AV × Hp)) : Hp → List X → Option (List AV × Hp)
  | H, [] => some ([], H)
  | H, e :: r => match evArg f H e with
    | some (here, H1) => match evList f H1 r with | some (vs, H2) => some (here ++ vs, H2) | none => none
    | none => none
noncomputable def isStar : X → Bool
  | .star _ => true
  | _ => false
noncomputable def optNat (f : Hp → X → Option (AV × Hp)) (H : Hp) : Option X → Option (Option Nat × Hp)
  | none => some (none, H)
  | some e => match f H e with
    | some (.int (.ofNat n), H1) => some (some n, H1)
    | _ => none

noncomputable def rangeItems (a step : Int) : Nat → List AV
  | 0 => []
  | n + 1 => .int a :: rangeItems (a + step) step n
noncomputable def okI : Int → Bool
  | .ofNat n => Nat.ble n 1048576
  | .negSucc n => Nat.ble n 1048575
noncomputable def rng (a b s : Int) : Option (List AV) := match decide (s = 1) with
  | true => some (rangeItems a 1 (b - a).toNat)
  | false => match decide (s = -1) with
    | true => some (rangeItems a (-1) (a - b).toNat)
    | false => none
noncomputable def rangeOf (a b s : Int) : Option (List AV) := match okI a && okI b with
  | true => rng a b s
  | false => none
noncomputable def range2 (x y : AV) (s : Int) : Option (List AV) := match int? x with
  | some a => match int? y with | some b => rangeOf a b s | none => none
  | none => none
noncomputable def range3 (vs : List AV) : Option (List AV) := match vs.tail.tail.head? with
  | some z => match pair? (vs.take 2) with
    | some (x, y) => match int? z with
      | some s => match vs.tail.tail.tail.isEmpty with | true => range2 x y s | false => none
      | none => none
    | none => none
  | none => none
noncomputable def rangeArgs (vs : List AV) : Option (List AV) := match one? vs with
  | some y => match int? y with | some b => rangeOf 0 b 1 | none => none
  | none => match pair? vs with
    | some (x, y) => range2 x y 1
    | none => range3 vs

/-- a source's items; the list that is held still while it is gone through -/
noncomputable def frzO (H : Hp) (k : Nat) : Option (List AV × Option Nat × Hp) := match H[k]? with
  | some (.list xs) => some (xs, some k, H.set k (.flist xs))
  | some (.flist xs) => some (xs, none, H)
  | some (.tup xs) => some (xs, none, H)
  | _ => none
noncomputable def frzG (cx : Cx) (H : Hp) (a : Addr) : Option (List AV × Option Nat × Hp) := match cx.gtup a with | some xs => some (xs, none, H) | none => none
noncomputable def freeze (cx : Cx) (H : Hp) (a : AV) : Option (List AV × Option Nat × Hp) := AV.casesOn (motive := fun _ => Option (List AV × Option Nat × Hp)) a none (fun _ => none) (fun _ => none) (fun _ => none) (fun k => frzO H k) (fun _ => none) (fun _ => none) (fun g => frzG cx H g)
noncomputable def thaw (H : Hp) : Option Nat → Option Hp
  | none => some H
  | some k => match H[k]? with
    | some (.flist xs) => some (H.set k (.list xs))
    | _ => none
noncomputable def eName (cx : Cx) (ae : AEnv) (H : Hp) (x : Str) : Option (AV × Hp) := match seq x dbg with
  | true => none
  | false => match rdVar cx ae H x with | some v => some (v, H) | none => none
noncomputable def xcall? (x : X) : Option (Str × List X) := match x with | .call f args => some (f, args) | _ => none
noncomputable def isTRange (b : BI) : Bool := match b with | .tRange => true | _ => false
noncomputable def isRange (cx : Cx) (ae : AEnv) (H : Hp) (x : X) : Option (List X) := match xcall? x with
  | some (f, args) => match eName cx ae H f with
    | some (v, _) => match bi? v with
      | some b => match isTRange b with | true => some args | false => none
      | none => none
    | none => none
  | none => none
noncomputable def itemsR (ih : Ev) (ae : AEnv) (H : Hp) (args : List X) : Option (List AV × Option Nat × Hp) := match args.any isStar with
  | true => none
  | false => match evList (ih.e ae) H args with
    | some (vs, H1) => match rangeArgs vs with | some xs => some (xs, none, H1) | none => none
    | none => none
noncomputable def itemsE (cx : Cx) (ih : Ev) (ae : AEnv) (H : Hp) (iter : X) : Option (List AV × Option Nat × Hp) := match ih.e ae H iter with
  | some (v, H1) => freeze cx H1 v
  | none => none
noncomputable def itemsOf (cx : Cx) (ih : Ev) (ae : AEnv) (H : Hp) (iter : X) : Option (List AV × Option Nat × Hp) :=
  match isRange cx ae H iter with
  | some args => itemsR ih ae H args
  | none => itemsE cx ih ae H iter

noncomputable def bindAll (ae : AEnv) : Hp → List Str → List AV → Option Hp
  | H, [], [] => some H
  | H, x :: xs, v :: vs => match wrVar ae H x v with | some H1 => bindAll ae H1 xs vs | none => none
  | _, _, _ => none

/-- the parts of an item that is unpacked -/
noncomputable def parts (cx : Cx) (H : Hp) (a : AV) : Option (List AV) := AV.casesOn (motive := fun _ => Option (List AV)) a none (fun _ => none) (fun _ => none) (fun _ => none) (fun k => rdSeq H k) (fun _ => none) (fun _ => none) (fun g => cx.gtup g)
/-- a target takes an item -/
noncomputable def take (cx : Cx) (ae : AEnv) (H : Hp) (v : AV) : Tgt → Option Hp
  | .one x => wrVar ae H x v
  | .many xs => match parts cx H v with | some vs => bindAll ae H xs vs | none => none
  | .bad => none

noncomputable def forGo (turn : Hp → AV → Option (AFlow × Hp)) : List AV → Hp → Option (AFlow × Hp)
  | [], H => some (.next, H)
  | v :: vs, H => match turn H v with
    | some (.next, H1) => forGo turn vs H1
    | some (.cont, H1) => forGo turn vs H1
    | some (.brk, H1) => some (.brk, H1)
    | some (.ret r, H1) => some (.ret r, H1)
    | none => none
noncomputable def whileGo (test : Hp → Option (Bool × Hp)) (body : Hp → Option (AFlow × Hp)) : Nat → Hp → Option (AFlow × Hp)
  | 0, _ => none
  | n + 1, H => match test H with
    | some (false, H1) => some (.next, H1)
    | some (true, H1) => match body H1 with
      | some (.next, H2) => whileGo test body n H2
      | some (.cont, H2) => whileGo test body n H2
      | some (.brk, H2) => some (.next, H2)
      | some (.ret r, H2) => some (.ret r, H2)
      | none => none
    | none => none
noncomputable def testAll (t : Hp → X → Option (Bool × Hp)) : List X → Hp → Option (Bool × Hp)
  | [], H => some (true, H)
  | e :: r, H => match t H e with
    | some (true, H1) => testAll t r H1
    | some (false, H1) => some (false, H1)
    | none => none
noncomputable def compGo (ae : AEnv) (x : Str) (acc : Nat) (tests : Hp → Option (Bool × Hp)) (elt : Hp → Option (AV × Hp)) : List AV → Hp → Option Hp
  | [], H => some H
  | v :: vs, H => match wrVar ae H x v with
    | some H1 => match tests H1 with
      | some (false, H2) => compGo ae x acc tests elt vs H2
      | some (true, H2) => match elt H2 with
        | some (y, H3) => match H3[acc]? with
          | some (.list ys) => (match okL (ys ++ [y]) with | true => compGo ae x acc tests elt vs (H3.set acc (.list (ys ++ [y]))) | false => none)
          | _ => none
        | none => none
      | none => none
    | none => none

noncomputable def isObj : AV → Bool
  | .obj _ => true
  | _ => false
/-- the cells of a block: names with their places -/
noncomputable def cellsAt : Nat → List (Str × NameKind) → List (Str × Nat)
  | _, [] => []
  | n, (x, k) :: r => match k with | .cell => (x, n) :: cellsAt (n + 1) r | _ => cellsAt n r
noncomputable def closure (cells : List (Str × Nat)) : List (Str × NameKind) → Option (List (Str × Nat))
  | [] => some []
  | (x, k) :: r => match k with
    | .free => match lkp x cells with
      | some k => match closure cells r with | some l => some ((x, k) :: l) | none => none
      | none => none
    | _ => closure cells r
/-- an evaluator's heap may speak of places that were there before only: then what is behind may go -/
noncomputable def low (n : Nat) : AV → Bool
  | .obj k => Nat.blt k n
  | _ => true
noncomputable def lowO (n : Nat) : AObj → Bool
  | .list xs => xs.all (low n)
  | .flist xs => xs.all (low n)
  | .tup xs => xs.all (low n)
  | .ns m => m.all fun p => low n p.2
  | .cell c => match c with | some v => low n v | none => true
/-- behind a call or a block: the fresh things go, but the answer -/
noncomputable def sweep (n : Nat) (v : AV) (H : Hp) : AV × Hp := match (H.take n).all (lowO n) with
  | false => (v, H)
  | true => match v with
    | .obj k => match Nat.ble n k with
      | true => match H[k]? with
        | some (.list xs) => (match xs.any isObj with | true => (v, H) | false => (.obj n, H.take n ++ [.list xs]))
        | some (.tup xs) => (match xs.any isObj with | true => (v, H) | false => (.obj n, H.take n ++ [.tup xs]))
        | _ => (v, H)
      | false => (v, H.take n)
    | _ => (v, H.take n)

noncomputable def bindParams (ae : AEnv) : Hp → List (Str × AV) → Option Hp
  | H, [] => some H
  | H, (x, v) :: r => match wrVar ae H x v with | some H1 => bindParams ae H1 r | none => none

/-- what stands at the call of a def of the text's -/
noncomputable def enter (fd : FuncData) (H : Hp) (vs : List AV) : Option (List (Str × AV) × Hp) :=
  let ps := fd.params.args.map (·.arg)
  match fd.params.vararg with
  | none => match Nat.beq ps.length vs.length with | true => some (ps.zip vs, H) | false => none
  | some a => match Nat.ble ps.length vs.length && Nat.beq vs.length 7 with
    | true => (match okL (vs.drop ps.length) with | true => some (ps.zip vs ++ [(a.arg, .obj H.length)], H ++ [.tup (vs.drop ps.length)]) | false => none)
    | false => none

noncomputable def applyCall (cx : Cx) (ih : Ev) (H : Hp) (f : AV) (vs : List AV) : Option (AV × Hp) := match f with
  | .fn a => match cx.orc a vs with
    | some r => some (r, H)
    | none => match cx.orcL a vs with
      | some xs => allocL H xs
      | none => ih.c H a vs
  | .bi b => builtin H b vs
  | _ => none

noncomputable def stepC (cx : Cx) (ih : Ev) (H : Hp) (a : Addr) (vs : List AV) : Option (AV × Hp) := match cx.fn a with
  | some fd => match fd.body with
    | .stmts body => match enter fd H vs with
      | some (binds, H1) => match bindParams ⟨fd.scope.names, H1.length, cellsAt (H1.length + 1) fd.scope.names⟩ (H1 ++ (.ns [] :: (cellsAt (H1.length + 1) fd.scope.names).map fun _ => .cell none)) binds with
        | some H2 => match ih.x ⟨fd.scope.names, H1.length, cellsAt (H1.length + 1) fd.scope.names⟩ H2 (body.map (cS 40 40)) with
          | some (.ret v, H3) => some (sweep H.length v H3)
          | _ => none
        | none => none
      | none => none
    | _ => none
  | none => none

/-- behind a comprehension its own names go -/
noncomputable def compEnd (n : Nat) (H : Hp) : Option (AV × Hp) := match (H.take n).all (lowO n), H[n + 1]? with
  | true, some (.ns _) => match H[n]? with
    | some (.list ys) => (match ys.any isObj with | true => none | false => some (.obj n, H.take n ++ [.list ys]))
    | _ => none
  | _, _ => none
noncomputable def comp (cx : Cx) (ih : Ev) (ae : AEnv) (H : Hp) (elt : X) (x : Str) (iter : X) (ifs : List X) (names : List (Str × NameKind)) : Option (AV × Hp) :=
  match itemsOf cx ih ae H iter with
  | some (items, fr, H1) => match closure ae.cells names with
    | some cl => match compGo ⟨names, H1.length + 1, cellsAt (H1.length + 2) names ++ cl⟩ x H1.length (testAll (ih.t ⟨names, H1.length + 1, cellsAt (H1.length + 2) names ++ cl⟩) ifs)
        (fun H => ih.e ⟨names, H1.length + 1, cellsAt (H1.length + 2) names ++ cl⟩ H elt) items (H1 ++ (.list [] :: .ns [] :: (cellsAt (H1.length + 2) names).map fun _ => .cell none)) with
      | some H2 => match thaw H2 fr with
        | some H3 => compEnd H1.length H3
        | none => none
      | none => none
    | none => none
  | none => none

noncomputable def boolGo (f : Hp → Option (AV × Hp)) (H : Hp) (v : AV) : BoolOp → Bool → Option (AV × Hp)
  | .And, false => some (v, H)
  | .And, true => f H
  | .Or, true => some (v, H)
  | .Or, false => f H
noncomputable def eBool (f : Hp → X → Option (AV × Hp)) (op : BoolOp) : List X → Hp → Option (AV × Hp)
  | [], _ => none
  | a :: r, H => match r with
    | [] => f H a
    | _ :: _ => match f H a with
      | some (v, H1) => match truth H1 v with
        | some t => boolGo (fun H => eBool f op r H) H1 v op t
        | none => none
      | none => none
noncomputable def eBin (ih : Ev) (ae : AEnv) (H : Hp) (l : X) (op : Operator) (r : X) : Option (AV × Hp) := match ih.e ae H l with
  | some (a, H1) => match ih.e ae H1 r with | some (b, H2) => binop H2 op a b | none => none
  | none => none
noncomputable def eNot (ih : Ev) (ae : AEnv) (H : Hp) (a : X) : Option (AV × Hp) := match ih.e ae H a with
  | some (v, H1) => match truth H1 v with | some b => some (.bool (!b), H1) | none => none
  | none => none
noncomputable def eNeg (ih : Ev) (ae : AEnv) (H : Hp) (a : X) : Option (AV × Hp) := match ih.e ae H a with
  | some (.int i, H1) => some (.int (-i), H1)
  | _ => none
noncomputable def eIf (ih : Ev) (ae : AEnv) (H : Hp) (c a b : X) : Option (AV × Hp) := match ih.t ae H c with
  | some (true, H1) => ih.e ae H1 a
  | some (false, H1) => ih.e ae H1 b
  | none => none
noncomputable def eSeq (ih : Ev) (ae : AEnv) (H : Hp) (mk : Hp → List AV → Option (AV × Hp)) (elts : List X) : Option (AV × Hp) := match elts.any isStar with
  | true => none
  | false => match evList (ih.e ae) H elts with | some (vs, H1) => mk H1 vs | none => none
noncomputable def eCmp (ih : Ev) (ae : AEnv) (H : Hp) (l : X) (op : CmpOp) (r : X) : Option (Bool × Hp) := match ih.e ae H l with
  | some (a, H1) => match ih.e ae H1 r with
    | some (b, H2) => match cmpop H2 op a b with | some t => some (t, H2) | none => none
    | none => none
  | none => none
noncomputable def eSlice (ih : Ev) (ae : AEnv) (H : Hp) (o : X) (lo hi : Option X) : Option (AV × Hp) := match ih.e ae H o with
  | some (v, H1) => match optNat (ih.e ae) H1 lo with
    | some (l, H2) => match optNat (ih.e ae) H2 hi with
      | some (h, H3) => slice H3 v l h
      | none => none
    | none => none
  | none => none
noncomputable def eRev (ih : Ev) (ae : AEnv) (H : Hp) (o : X) : Option (AV × Hp) := match ih.e ae H o with
  | some (.obj k, H1) => match rdList H1 k with | some xs => allocL H1 xs.reverse | none => none
  | _ => none
noncomputable def eItem (ih : Ev) (ae : AEnv) (H : Hp) (o i : X) : Option (AV × Hp) := match ih.e ae H o with
  | some (v, H1) => match ih.e ae H1 i with
    | some (.int j, H2) => match index H2 v j with | some r => some (r, H2) | none => none
    | _ => none
  | none => none
noncomputable def recv (H : Hp) (m : Meth) : AV → Bool
  | .str _ => match m with | .append => false | .pop => false | _ => true
  | .obj k => match m with | .append => (rdList H k).isSome | .pop => (rdList H k).isSome | _ => false
  | _ => false
noncomputable def eMeth (ih : Ev) (ae : AEnv) (H : Hp) (o : X) (m : Meth) (args : List X) : Option (AV × Hp) := match args.any isStar || Nat.ble 20 args.length with
  | true => none
  | false => match ih.e ae H o with
    | some (v, H1) => match recv H1 m v with
      | true => match evList (ih.e ae) H1 args with
        | some (vs, H2) => method H2 v m vs
        | none => none
      | false => none
    | none => none
noncomputable def okArgs (args : List X) : AV → Bool
  | .bi _ => (match args.any isStar with | true => false | false => true)
  | _ => match args with | [.star _] => false | _ => Nat.ble args.length 20
noncomputable def eCall (cx : Cx) (ih : Ev) (ae : AEnv) (H : Hp) (f : Str) (args : List X) : Option (AV × Hp) := match eName cx ae H f with
  | some (v, H1) => match okArgs args v with
    | true => match evList (ih.e ae) H1 args with
      | some (vs, H2) => applyCall cx ih H2 v vs
      | none => none
    | false => none
  | none => none

noncomputable def stepE (cx : Cx) (ih : Ev) (ae : AEnv) (H : Hp) : X → Option (AV × Hp)
  | .const c => some (c, H)
  | .name x => eName cx ae H x
  | .bool op vs => eBool (ih.e ae) op vs H
  | .bin l op r => eBin ih ae H l op r
  | .not a => eNot ih ae H a
  | .neg a => eNeg ih ae H a
  | .ite c a b => eIf ih ae H c a b
  | .list vs => eSeq ih ae H allocL vs
  | .tup vs => eSeq ih ae H allocT vs
  | .cmp l op r => match eCmp ih ae H l op r with | some (b, H1) => some (.bool b, H1) | none => none
  | .comp elt x iter ifs names => comp cx ih ae H elt x iter ifs names
  | .item o i => eItem ih ae H o i
  | .slice o lo hi => eSlice ih ae H o lo hi
  | .rev o => eRev ih ae H o
  | .meth o m args => eMeth ih ae H o m args
  | .call f args => eCall cx ih ae H f args
  | .star _ => none
  | .bad => none

noncomputable def truthGo (f : Hp → Option (Bool × Hp)) (H : Hp) : BoolOp → Bool → Option (Bool × Hp)
  | .And, false => some (false, H)
  | .Or, true => some (true, H)
  | .And, true => f H
  | .Or, false => f H
noncomputable def allTruth (f : Hp → X → Option (Bool × Hp)) (op : BoolOp) : List X → Hp → Option (Bool × Hp)
  | [], H => some (match op with | .And => true | .Or => false, H)
  | a :: r, H => match f H a with
    | some (b, H1) => truthGo (fun H => allTruth f op r H) H1 op b
    | none => none
noncomputable def tWhole (ih : Ev) (ae : AEnv) (H : Hp) (e : X) : Option (Bool × Hp) := match ih.e ae H e with
  | some (v, H1) => match truth H1 v with | some b => some (b, H1) | none => none
  | none => none
noncomputable def tNot : Option (Bool × Hp) → Option (Bool × Hp)
  | some (b, H1) => some (!b, H1)
  | none => none
noncomputable def stepT (ih : Ev) (ae : AEnv) (H : Hp) : X → Option (Bool × Hp)
  | .not a => tNot (ih.t ae H a)
  | .bool op vs => allTruth (ih.t ae) op vs H
  | .cmp l op r => eCmp ih ae H l op r
  | .name x => tWhole ih ae H (.name x)
  | .bin a o b => tWhole ih ae H (.bin a o b)
  | .call f args => tWhole ih ae H (.call f args)
  | .meth o m args => tWhole ih ae H (.meth o m args)
  | _ => none

noncomputable def enumGo (ae : AEnv) (x y : Str) (body : Hp → Option (AFlow × Hp)) : Nat → List AV → Hp → Option (AFlow × Hp)
  | _, [], H => some (.next, H)
  | i, v :: vs, H => match bindAll ae H [x, y] [.int (.ofNat i), v] with
    | some H0 => match body H0 with
      | some (.next, H1) => enumGo ae x y body (i + 1) vs H1
      | some (.cont, H1) => enumGo ae x y body (i + 1) vs H1
      | some (.brk, H1) => some (.brk, H1)
      | some (.ret r, H1) => some (.ret r, H1)
      | none => none
    | none => none
noncomputable def orElse (els : Hp → Option (AFlow × Hp)) (fr : Option Nat) : Option (AFlow × Hp) → Option (AFlow × Hp)
  | some (.next, H) => match thaw H fr with | some H1 => els H1 | none => none
  | some (.brk, H) => match thaw H fr with | some H1 => some (.next, H1) | none => none
  | some (.ret v, H) => match thaw H fr with | some H1 => some (.ret v, H1) | none => none
  | _ => none

noncomputable def isRef : AV → Bool
  | .obj _ => true
  | .fn _ => true
  | .gref _ => true
  | _ => false
noncomputable def sExpr (ih : Ev) (ae : AEnv) (H : Hp) (e : X) : Option (AFlow × Hp) := match ih.e ae H e with
  | some (v, H1) => match isRef v with | true => none | false => some (.next, H1)
  | none => none
noncomputable def sReturn (ih : Ev) (ae : AEnv) (H : Hp) (e : X) : Option (AFlow × Hp) := match ih.e ae H e with
  | some (v, H1) => some (.ret v, H1)
  | none => none
noncomputable def sAssign (cx : Cx) (ih : Ev) (ae : AEnv) (H : Hp) (t : Tgt) (e : X) : Option (AFlow × Hp) := match ih.e ae H e with
  | some (v, H1) => match take cx ae H1 v t with | some H2 => some (.next, H2) | none => none
  | none => none
noncomputable def sAug (cx : Cx) (ih : Ev) (ae : AEnv) (H : Hp) (x : Str) (e : X) : Option (AFlow × Hp) := match rdVar cx ae H x with
  | some (.str a) => match ih.e ae H e with
    | some (.str b, H1) => match mkS (a.cps.toList ++ b.cps.toList) with
      | some v => match wrVar ae H1 x v with | some H2 => some (.next, H2) | none => none
      | none => none
    | _ => none
  | _ => none
noncomputable def sIf (ih : Ev) (ae : AEnv) (H : Hp) (c : X) (a b : List XS) : Option (AFlow × Hp) := match ih.t ae H c with
  | some (true, H1) => ih.x ae H1 a
  | some (false, H1) => ih.x ae H1 b
  | none => none
noncomputable def isEnum (cx : Cx) (ae : AEnv) (H : Hp) : Bool := match rdVar cx ae H enumName with
  | some (.bi b) => match b with | .tEnum => true | _ => false
  | _ => false
noncomputable def sEnum (cx : Cx) (ih : Ev) (ae : AEnv) (H : Hp) (x y : Str) (src : X) (body els : List XS) : Option (AFlow × Hp) := match isStar src, isEnum cx ae H with
  | false, true => match ih.e ae H src with
    | some (.gref a, H1) => match cx.gtup a with
      | some xs => orElse (fun H => ih.x ae H els) none (enumGo ae x y (fun H => ih.x ae H body) 0 xs H1)
      | none => none
    | _ => none
  | _, _ => none
noncomputable def sFor (cx : Cx) (ih : Ev) (ae : AEnv) (H : Hp) (t : Tgt) (iter : X) (body els : List XS) : Option (AFlow × Hp) :=
  match itemsOf cx ih ae H iter with
  | some (items, fr, H1) => orElse (fun H => ih.x ae H els) fr (forGo (fun H v => match take cx ae H v t with | some H1 => ih.x ae H1 body | none => none) items H1)
  | none => none

noncomputable def stepS (cx : Cx) (ih : Ev) (ae : AEnv) (H : Hp) : XS → Option (AFlow × Hp)
  | .expr e => sExpr ih ae H e
  | .ret e => sReturn ih ae H e
  | .asg t e => sAssign cx ih ae H t e
  | .aug x e => sAug cx ih ae H x e
  | .ite c a b => sIf ih ae H c a b
  | .whl c a => whileGo (fun H => ih.t ae H c) (fun H => ih.x ae H a) 64 H
  | .for t iter body els => sFor cx ih ae H t iter body els
  | .enum x y src body els => sEnum cx ih ae H x y src body els
  | .tri body => ih.x ae H body
  | .brk => some (.brk, H)
  | .cont => some (.cont, H)
  | .pass => some (.next, H)
  | .bad => none

noncomputable def stepX (cx : Cx) (ih : Ev) (ae : AEnv) (H : Hp) : List XS → Option (AFlow × Hp)
  | [] => some (.next, H)
  | s :: r => match stepS cx ih ae H s with
    | some (.next, H1) => ih.x ae H1 r
    | x => x

noncomputable def step (cx : Cx) (ih : Ev) : Ev := ⟨stepE cx ih, stepT ih, stepX cx ih, stepC cx ih⟩
noncomputable def ev0 : Ev := ⟨fun _ _ _ => none, fun _ _ _ => none, fun _ _ _ => none, fun _ _ _ => none⟩
noncomputable def evN (cx : Cx) (n : Nat) : Ev := Nat.rec ev0 (fun _ ih => step cx ih) n
end Mine

namespace Mine
open PySem
theorem ooNo {γ : Type} {r : γ} {G : Prop} (h : none = some r) : G := by cases h
theorem hide {G : Prop} (h : ∀ GG : Prop, (G → GG) → GG) : G := h G id
theorem ooP {γ : Type} {r : γ} {o : Option (AV × Hp)} {F1 : AV → Hp → Option γ} {G : Prop} (h : (match o with | some (a, b) => F1 a b | none => none) = some r) (k1 : ∀ a b, o = some (a, b) → F1 a b = some r → G) : G := by
  rcases o with _ | ⟨o, o1⟩ <;> first | exact ooNo h | (first | exact ooNo h | exact k1 _ _ rfl h)
theorem ooQ {γ : Type} {r : γ} {o : Option (Bool × Hp)} {F1 : Bool → Hp → Option γ} {G : Prop} (h : (match o with | some (a, b) => F1 a b | none => none) = some r) (k1 : ∀ a b, o = some (a, b) → F1 a b = some r → G) : G := by
  rcases o with _ | ⟨o, o1⟩ <;> first | exact ooNo h | (first | exact ooNo h | exact k1 _ _ rfl h)
theorem ooHp {γ : Type} {r : γ} {o : Option (Hp)} {F1 : Hp → Option γ} {G : Prop} (h : (match o with | some a => F1 a | none => none) = some r) (k1 : ∀ a, o = some a → F1 a = some r → G) : G := by
  rcases o with _ | o <;> first | exact ooNo h | (first | exact ooNo h | exact k1 _ rfl h)
theorem ooAV {γ : Type} {r : γ} {o : Option (AV)} {F1 : AV → Option γ} {G : Prop} (h : (match o with | some a => F1 a | none => none) = some r) (k1 : ∀ a, o = some a → F1 a = some r → G) : G := by
  rcases o with _ | o <;> first | exact ooNo h | (first | exact ooNo h | exact k1 _ rfl h)
theorem ooLA {γ : Type} {r : γ} {o : Option (List AV)} {F1 : List AV → Option γ} {G : Prop} (h : (match o with | some a => F1 a | none => none) = some r) (k1 : ∀ a, o = some a → F1 a = some r → G) : G := by
  rcases o with _ | o <;> first | exact ooNo h | (first | exact ooNo h | exact k1 _ rfl h)
theorem ooN {γ : Type} {r : γ} {o : Option (Nat)} {F1 : Nat → Option γ} {G : Prop} (h : (match o with | some a => F1 a | none => none) = some r) (k1 : ∀ a, o = some a → F1 a = some r → G) : G := by
  rcases o with _ | o <;> first | exact ooNo h | (first | exact ooNo h | exact k1 _ rfl h)
theorem ooInt {γ : Type} {r : γ} {o : Option (Int)} {F1 : Int → Option γ} {G : Prop} (h : (match o with | some a => F1 a | none => none) = some r) (k1 : ∀ a, o = some a → F1 a = some r → G) : G := by
  rcases o with _ | o <;> first | exact ooNo h | (first | exact ooNo h | exact k1 _ rfl h)
theorem ooStr {γ : Type} {r : γ} {o : Option (Str)} {F1 : Str → Option γ} {G : Prop} (h : (match o with | some a => F1 a | none => none) = some r) (k1 : ∀ a, o = some a → F1 a = some r → G) : G := by
  rcases o with _ | o <;> first | exact ooNo h | (first | exact ooNo h | exact k1 _ rfl h)
theorem ooBI {γ : Type} {r : γ} {o : Option (BI)} {F1 : BI → Option γ} {G : Prop} (h : (match o with | some a => F1 a | none => none) = some r) (k1 : ∀ a, o = some a → F1 a = some r → G) : G := by
  rcases o with _ | o <;> first | exact ooNo h | (first | exact ooNo h | exact k1 _ rfl h)
theorem ooPr {γ : Type} {r : γ} {o : Option (AV × AV)} {F1 : AV → AV → Option γ} {G : Prop} (h : (match o with | some (a, b) => F1 a b | none => none) = some r) (k1 : ∀ a b, o = some (a, b) → F1 a b = some r → G) : G := by
  rcases o with _ | ⟨o, o1⟩ <;> first | exact ooNo h | (first | exact ooNo h | exact k1 _ _ rfl h)
theorem ooSX {γ : Type} {r : γ} {o : Option (Str × List X)} {F1 : Str → List X → Option γ} {G : Prop} (h : (match o with | some (a, b) => F1 a b | none => none) = some r) (k1 : ∀ a b, o = some (a, b) → F1 a b = some r → G) : G := by
  rcases o with _ | ⟨o, o1⟩ <;> first | exact ooNo h | (first | exact ooNo h | exact k1 _ _ rfl h)
theorem ooLS {γ : Type} {r : γ} {o : Option (List Str)} {F1 : List Str → Option γ} {G : Prop} (h : (match o with | some a => F1 a | none => none) = some r) (k1 : ∀ a, o = some a → F1 a = some r → G) : G := by
  rcases o with _ | o <;> first | exact ooNo h | (first | exact ooNo h | exact k1 _ rfl h)
theorem ooLN {γ : Type} {r : γ} {o : Option (List (Str × Nat))} {F1 : List (Str × Nat) → Option γ} {G : Prop} (h : (match o with | some a => F1 a | none => none) = some r) (k1 : ∀ a, o = some a → F1 a = some r → G) : G := by
  rcases o with _ | o <;> first | exact ooNo h | (first | exact ooNo h | exact k1 _ rfl h)
theorem ooB {γ : Type} {r : γ} {o : Option (Bool)} {F1 : Bool → Option γ} {G : Prop} (h : (match o with | some a => F1 a | none => none) = some r) (k1 : ∀ a, o = some a → F1 a = some r → G) : G := by
  rcases o with _ | o <;> first | exact ooNo h | (first | exact ooNo h | exact k1 _ rfl h)
theorem ooIt {γ : Type} {r : γ} {o : Option (List AV × Option Nat × Hp)} {F1 : List AV → Option Nat → Hp → Option γ} {G : Prop} (h : (match o with | some (a, b, c) => F1 a b c | none => none) = some r) (k1 : ∀ a b c, o = some (a, b, c) → F1 a b c = some r → G) : G := by
  rcases o with _ | ⟨o, o1, o2⟩ <;> first | exact ooNo h | (first | exact ooNo h | exact k1 _ _ _ rfl h)
theorem ooO {γ : Type} {r : γ} {o : Option (Option Nat × Hp)} {F1 : Option Nat → Hp → Option γ} {G : Prop} (h : (match o with | some (a, b) => F1 a b | none => none) = some r) (k1 : ∀ a b, o = some (a, b) → F1 a b = some r → G) : G := by
  rcases o with _ | ⟨o, o1⟩ <;> first | exact ooNo h | (first | exact ooNo h | exact k1 _ _ rfl h)
theorem ooFD {γ : Type} {r : γ} {o : Option (FuncData)} {F1 : FuncData → Option γ} {G : Prop} (h : (match o with | some a => F1 a | none => none) = some r) (k1 : ∀ a, o = some a → F1 a = some r → G) : G := by
  rcases o with _ | o <;> first | exact ooNo h | (first | exact ooNo h | exact k1 _ rfl h)
theorem ooEn {γ : Type} {r : γ} {o : Option (List (Str × AV) × Hp)} {F1 : List (Str × AV) → Hp → Option γ} {G : Prop} (h : (match o with | some (a, b) => F1 a b | none => none) = some r) (k1 : ∀ a b, o = some (a, b) → F1 a b = some r → G) : G := by
  rcases o with _ | ⟨o, o1⟩ <;> first | exact ooNo h | (first | exact ooNo h | exact k1 _ _ rfl h)
theorem ooVs {γ : Type} {r : γ} {o : Option (List AV × Hp)} {F1 : List AV → Hp → Option γ} {G : Prop} (h : (match o with | some (a, b) => F1 a b | none => none) = some r) (k1 : ∀ a b, o = some (a, b) → F1 a b = some r → G) : G := by
  rcases o with _ | ⟨o, o1⟩ <;> first | exact ooNo h | (first | exact ooNo h | exact k1 _ _ rfl h)
theorem ooNs {γ : Type} {r : γ} {o : Option (AObj)} {F1 : List (Str × AV) → Option γ} {G : Prop} (h : (match o with | some (.ns m) => F1 m | _ => none) = some r) (k1 : ∀ m, o = some (.ns m) → F1 m = some r → G) : G := by
  rcases o with _ | o <;> first | exact ooNo h | (cases o <;> first | exact ooNo h | (first | exact ooNo h | exact k1 _ rfl h))
theorem ooCell {γ : Type} {r : γ} {o : Option (AObj)} {F1 : Option AV → Option γ} {G : Prop} (h : (match o with | some (.cell c) => F1 c | _ => none) = some r) (k1 : ∀ c, o = some (.cell c) → F1 c = some r → G) : G := by
  rcases o with _ | o <;> first | exact ooNo h | (cases o <;> first | exact ooNo h | (first | exact ooNo h | exact k1 _ rfl h))
theorem ooList {γ : Type} {r : γ} {o : Option (AObj)} {F1 : List AV → Option γ} {G : Prop} (h : (match o with | some (.list xs) => F1 xs | _ => none) = some r) (k1 : ∀ xs, o = some (.list xs) → F1 xs = some r → G) : G := by
  rcases o with _ | o <;> first | exact ooNo h | (cases o <;> first | exact ooNo h | (first | exact ooNo h | exact k1 _ rfl h))
theorem ooFlist {γ : Type} {r : γ} {o : Option (AObj)} {F1 : List AV → Option γ} {G : Prop} (h : (match o with | some (.flist xs) => F1 xs | _ => none) = some r) (k1 : ∀ xs, o = some (.flist xs) → F1 xs = some r → G) : G := by
  rcases o with _ | o <;> first | exact ooNo h | (cases o <;> first | exact ooNo h | (first | exact ooNo h | exact k1 _ rfl h))
theorem ooTup {γ : Type} {r : γ} {o : Option (AObj)} {F1 : List AV → Option γ} {G : Prop} (h : (match o with | some (.tup xs) => F1 xs | _ => none) = some r) (k1 : ∀ xs, o = some (.tup xs) → F1 xs = some r → G) : G := by
  rcases o with _ | o <;> first | exact ooNo h | (cases o <;> first | exact ooNo h | (first | exact ooNo h | exact k1 _ rfl h))
theorem ooStrO {γ : Type} {r : γ} {o : Option (AV)} {F1 : Str → Option γ} {G : Prop} (h : (match o with | some (.str x) => F1 x | _ => none) = some r) (k1 : ∀ x, o = some (.str x) → F1 x = some r → G) : G := by
  rcases o with _ | o <;> first | exact ooNo h | (cases o <;> first | exact ooNo h | (first | exact ooNo h | exact k1 _ rfl h))
theorem ooIntP {γ : Type} {r : γ} {o : Option (AV × Hp)} {F1 : Int → Hp → Option γ} {G : Prop} (h : (match o with | some (.int i, b) => F1 i b | _ => none) = some r) (k1 : ∀ i b, o = some (.int i, b) → F1 i b = some r → G) : G := by
  rcases o with _ | ⟨o, o1⟩ <;> first | exact ooNo h | (cases o <;> first | exact ooNo h | (first | exact ooNo h | exact k1 _ _ rfl h))
theorem ooObjP {γ : Type} {r : γ} {o : Option (AV × Hp)} {F1 : Nat → Hp → Option γ} {G : Prop} (h : (match o with | some (.obj i, b) => F1 i b | _ => none) = some r) (k1 : ∀ i b, o = some (.obj i, b) → F1 i b = some r → G) : G := by
  rcases o with _ | ⟨o, o1⟩ <;> first | exact ooNo h | (cases o <;> first | exact ooNo h | (first | exact ooNo h | exact k1 _ _ rfl h))
theorem ooStrP {γ : Type} {r : γ} {o : Option (AV × Hp)} {F1 : Str → Hp → Option γ} {G : Prop} (h : (match o with | some (.str x, b) => F1 x b | _ => none) = some r) (k1 : ∀ x b, o = some (.str x, b) → F1 x b = some r → G) : G := by
  rcases o with _ | ⟨o, o1⟩ <;> first | exact ooNo h | (cases o <;> first | exact ooNo h | (first | exact ooNo h | exact k1 _ _ rfl h))
theorem ooGrefP {γ : Type} {r : γ} {o : Option (AV × Hp)} {F1 : Addr → Hp → Option γ} {G : Prop} (h : (match o with | some (.gref x, b) => F1 x b | _ => none) = some r) (k1 : ∀ x b, o = some (.gref x, b) → F1 x b = some r → G) : G := by
  rcases o with _ | ⟨o, o1⟩ <;> first | exact ooNo h | (cases o <;> first | exact ooNo h | (first | exact ooNo h | exact k1 _ _ rfl h))
theorem ooNatP {γ : Type} {r : γ} {o : Option (AV × Hp)} {F1 : Nat → Hp → Option γ} {G : Prop} (h : (match o with | some (.int (.ofNat n), b) => F1 n b | _ => none) = some r) (k1 : ∀ n b, o = some (.int (.ofNat n), b) → F1 n b = some r → G) : G := by
  rcases o with _ | ⟨o, o1⟩; · exact ooNo h
  cases o with
  | int i => cases i with
    | ofNat n => exact k1 _ _ rfl h
    | negSucc n => exact ooNo h
  | _ => exact ooNo h
theorem ooRet {γ : Type} {r : γ} {o : Option (AFlow × Hp)} {F1 : AV → Hp → Option γ} {G : Prop} (h : (match o with | some (.ret v, b) => F1 v b | _ => none) = some r) (k1 : ∀ v b, o = some (.ret v, b) → F1 v b = some r → G) : G := by
  rcases o with _ | ⟨o, o1⟩ <;> first | exact ooNo h | (cases o <;> first | exact ooNo h | (first | exact ooNo h | exact k1 _ _ rfl h))
theorem ooT {γ : Type} {r : γ} {o : Bool} {F1 : Option γ} {G : Prop} (h : (match o with | true => F1 | false => none) = some r) (k1 : o = true → F1 = some r → G) : G := by
  cases o <;> first | exact ooNo h | (first | exact ooNo h | exact k1 rfl h)
theorem ooF {γ : Type} {r : γ} {o : Bool} {F1 : Option γ} {G : Prop} (h : (match o with | true => none | false => F1) = some r) (k1 : o = false → F1 = some r → G) : G := by
  cases o <;> first | exact ooNo h | (first | exact ooNo h | exact k1 rfl h)
theorem ooFT {γ : Type} {r : γ} {o : Bool} {p : Bool} {F1 : Option γ} {G : Prop} (h : (match o, p with | false, true => F1 | _, _ => none) = some r) (k1 : o = false → p = true → F1 = some r → G) : G := by
  cases o <;> first | exact ooNo h | (cases p <;> first | exact ooNo h | (first | exact ooNo h | exact k1 rfl rfl h))
theorem ooTN {γ : Type} {r : γ} {o : Bool} {p : Option AObj} {F1 : List (Str × AV) → Option γ} {G : Prop} (h : (match o, p with | true, some (.ns m) => F1 m | _, _ => none) = some r) (k1 : ∀ m, o = true → p = some (.ns m) → F1 m = some r → G) : G := by
  cases o <;> first | exact ooNo h | (rcases p with _ | p <;> first | exact ooNo h | (cases p <;> first | exact ooNo h | (first | exact ooNo h | exact k1 _ rfl rfl h)))
theorem ooBody {γ : Type} {r : γ} {o : FuncBody} {F1 : List Stmt → Option γ} {G : Prop} (h : (match o with | .stmts b => F1 b | _ => none) = some r) (k1 : ∀ b, o = .stmts b → F1 b = some r → G) : G := by
  cases o <;> first | exact ooNo h | (first | exact ooNo h | exact k1 _ rfl h)
theorem ooTF {γ : Type} {r : γ} {o : Option (Bool × Hp)} {F1 : Hp → Option γ} {F2 : Hp → Option γ} {G : Prop} (h : (match o with | some (true, b) => F1 b | some (false, b) => F2 b | none => none) = some r) (k1 : ∀ b, o = some (true, b) → F1 b = some r → G) (k2 : ∀ b, o = some (false, b) → F2 b = some r → G) : G := by
  rcases o with _ | ⟨o, o1⟩ <;> first | exact ooNo h | (cases o <;> first | exact ooNo h | (first | exact ooNo h | exact k1 _ rfl h | exact k2 _ rfl h))
theorem ooFTs {γ : Type} {r : γ} {o : Option (Bool × Hp)} {F1 : Hp → Option γ} {F2 : Hp → Option γ} {G : Prop} (h : (match o with | some (false, b) => F1 b | some (true, b) => F2 b | none => none) = some r) (k1 : ∀ b, o = some (false, b) → F1 b = some r → G) (k2 : ∀ b, o = some (true, b) → F2 b = some r → G) : G := by
  rcases o with _ | ⟨o, o1⟩ <;> first | exact ooNo h | (cases o <;> first | exact ooNo h | (first | exact ooNo h | exact k1 _ rfl h | exact k2 _ rfl h))
theorem ooSL {γ : Type} {r : γ} {o : Option AObj} {F1 : List AV → Option γ} {F2 : List AV → Option γ} {G : Prop} (h : (match o with | some (.list xs) => F1 xs | some (.flist xs) => F2 xs | _ => none) = some r) (k1 : ∀ xs, o = some (.list xs) → F1 xs = some r → G) (k2 : ∀ xs, o = some (.flist xs) → F2 xs = some r → G) : G := by
  rcases o with _ | o <;> first | exact ooNo h | (cases o <;> first | exact ooNo h | (first | exact ooNo h | exact k1 _ rfl h | exact k2 _ rfl h))
theorem ooSeq {γ : Type} {r : γ} {o : Option AObj} {F1 : List AV → Option γ} {F2 : List AV → Option γ} {F3 : List AV → Option γ} {G : Prop} (h : (match o with | some (.list xs) => F1 xs | some (.flist xs) => F2 xs | some (.tup xs) => F3 xs | _ => none) = some r) (k1 : ∀ xs, o = some (.list xs) → F1 xs = some r → G) (k2 : ∀ xs, o = some (.flist xs) → F2 xs = some r → G) (k3 : ∀ xs, o = some (.tup xs) → F3 xs = some r → G) : G := by
  rcases o with _ | o <;> first | exact ooNo h | (cases o <;> first | exact ooNo h | (first | exact ooNo h | exact k1 _ rfl h | exact k2 _ rfl h | exact k3 _ rfl h))
theorem ooNK {γ : Type} {r : γ} {o : Option NameKind} {F1 : Option γ} {F2 : Option γ} {F3 : Option γ} {F4 : Option γ} {G : Prop} (h : (match o with | some .local => F1 | some .cell => F2 | some .free => F3 | some .globalImplicit => F4 | _ => none) = some r) (k1 : o = some .local → F1 = some r → G) (k2 : o = some .cell → F2 = some r → G) (k3 : o = some .free → F3 = some r → G) (k4 : o = some .globalImplicit → F4 = some r → G) : G := by
  rcases o with _ | o <;> first | exact ooNo h | (cases o <;> first | exact ooNo h | (first | exact ooNo h | exact k1 rfl h | exact k2 rfl h | exact k3 rfl h | exact k4 rfl h))
theorem ooNK2 {γ : Type} {r : γ} {o : Option NameKind} {F1 : Option γ} {F2 : Option γ} {G : Prop} (h : (match o with | some .local => F1 | some .cell => F2 | _ => none) = some r) (k1 : o = some .local → F1 = some r → G) (k2 : o = some .cell → F2 = some r → G) : G := by
  rcases o with _ | o <;> first | exact ooNo h | (cases o <;> first | exact ooNo h | (first | exact ooNo h | exact k1 rfl h | exact k2 rfl h))
theorem end1 {α : Type} {a c : α} {P : α → Prop} (h : some a = some c) (k : P a) : P c := by cases h; exact k
theorem bool?_some {a : AV} {x : Bool} (h : bool? a = some x) : a = .bool x := by cases a <;> first | exact ooNo h | (cases h; rfl)
theorem int?_some {a : AV} {x : Int} (h : int? a = some x) : a = .int x := by cases a <;> first | exact ooNo h | (cases h; rfl)
theorem str?_some {a : AV} {x : Str} (h : str? a = some x) : a = .str x := by cases a <;> first | exact ooNo h | (cases h; rfl)
theorem obj?_some {a : AV} {x : Nat} (h : obj? a = some x) : a = .obj x := by cases a <;> first | exact ooNo h | (cases h; rfl)
theorem bi?_some {a : AV} {x : BI} (h : bi? a = some x) : a = .bi x := by cases a <;> first | exact ooNo h | (cases h; rfl)
theorem natI?_some {i : Int} {n : Nat} (h : natI? i = some n) : i = .ofNat n := by cases i <;> first | exact ooNo h | (cases h; rfl)
theorem nat?_some {a : AV} {n : Nat} (h : nat? a = some n) : a = .int (.ofNat n) := by refine ooInt h fun i hi h => ?_; rw [int?_some hi, natI?_some h]
theorem one?_some {α : Type} {l : List α} {a : α} (h : one? l = some a) : l = [a] := by
  match l, h with
  | [b], h => cases h; rfl
theorem pair?_some {l : List AV} {a b : AV} (h : pair? l = some (a, b)) : l = [a, b] := by
  cases l with
  | nil => exact ooNo h
  | cons c r => refine ooAV h fun d hd h => ?_; rw [one?_some hd]; cases h; rfl
end Mine

namespace Mine
open PySem PySem.Calls PyProof.Rows

theorem nbeq_iff : ∀ {a b : List Nat}, nbeq a b = true ↔ a = b
  | [], [] => by simp [nbeq]
  | [], _ :: _ => by simp [nbeq]
  | _ :: _, [] => by simp [nbeq]
  | x :: l, y :: r => by
    unfold nbeq
    cases h : Nat.beq x y with
    | true => have := Nat.eq_of_beq_eq_true h; subst this; simp [nbeq_iff (a := l) (b := r)]
    | false => have := Nat.ne_of_beq_eq_false h; simp [this]
theorem seq_iff {a b : Str} : seq a b = true ↔ a = b := by
  unfold seq
  rw [nbeq_iff]
  constructor
  · intro h; obtain ⟨⟨l⟩⟩ := a; obtain ⟨⟨r⟩⟩ := b; simp at h; rw [h]
  · intro h; rw [h]
theorem seq_false {a b : Str} : seq a b = false ↔ a ≠ b := by
  constructor
  · intro h e; rw [seq_iff.mpr e] at h; cases h
  · intro h; cases q : seq a b with
    | false => rfl
    | true => exact absurd (seq_iff.mp q) h
theorem seq_self (a : Str) : seq a a = true := seq_iff.mpr rfl
theorem lkp_eq {α : Type} (x : Str) : ∀ l : List (Str × α), lkp x l = l.lookup x
  | [] => rfl
  | (y, v) :: r => by
    unfold lkp
    rw [List.lookup_cons]
    cases h : seq x y with
    | true => have := seq_iff.mp h; subst this; simp
    | false => rw [show (x == y) = false from beq_eq_false_iff_ne.mpr (seq_false.mp h)]; exact lkp_eq x r
theorem lkp_putv (x y : Str) (v : AV) : ∀ l : List (Str × AV), lkp x (putv y v l) = if x = y then some v else lkp x l
  | [] => by
    simp only [putv, lkp]
    by_cases h : x = y
    · subst h; simp [seq_self]
    · rw [seq_false.mpr h]; simp [h]
  | (z, u) :: r => by
    unfold putv
    cases hz : seq y z with
    | true =>
      have := seq_iff.mp hz; subst this
      simp only [lkp]
      by_cases h : x = y
      · subst h; simp [seq_self]
      · rw [seq_false.mpr h]; simp [h]
    | false =>
      simp only [lkp]
      cases hx : seq x z with
      | true =>
        have := seq_iff.mp hx; subst this
        have h : x ≠ y := fun e => by subst e; rw [seq_self] at hz; cases hz
        simp [h]
      | false => exact lkp_putv x y v r

/-! what the abstract stands for -/
noncomputable def lim : Nat := 1048576
theorem okL_le {α : Type} {xs : List α} (h : okL xs = true) : xs.length ≤ lim := Nat.le_of_ble_eq_true h
theorem lim_le : lim ≤ sizeLine := by rw [sizeLine_eq]; decide

noncomputable def VR (ρ : List Addr) : AV → Value → Prop
  | .none, v => v = .none
  | .bool b, v => v = .bool b
  | .int i, v => ∃ t, v = .int i t
  | .str x, v => x.cps.size ≤ lim ∧ ∃ t, v = .str x t
  | .obj k, v => ∃ a, ρ[k]? = some a ∧ v = .ref a
  | .fn a, v => v = .ref a
  | .bi b, v => v = b.val
  | .gref a, v => v = .ref a
noncomputable def VRs (ρ : List Addr) : List AV → List Value → Prop
  | [], [] => True
  | a :: as, v :: vs => VR ρ a v ∧ VRs ρ as vs
  | _, _ => False

theorem get_pre {ρ ρ' : List Addr} (h : ρ <+: ρ') {k : Nat} {a : Addr} (e : ρ[k]? = some a) : ρ'[k]? = some a := by
  obtain ⟨t, rfl⟩ := h
  rw [List.getElem?_append_left (List.getElem?_eq_some_iff.mp e).1]; exact e
theorem VR.mono {ρ ρ' : List Addr} (h : ρ <+: ρ') : ∀ {a : AV} {v : Value}, VR ρ a v → VR ρ' a v
  | .none, _, x => x
  | .bool _, _, x => x
  | .int _, _, x => x
  | .str _, _, x => x
  | .obj _, _, ⟨a, e, r⟩ => ⟨a, get_pre h e, r⟩
  | .fn _, _, x => x
  | .bi _, _, x => x
  | .gref _, _, x => x
theorem VR.imm {ρ ρ' : List Addr} : ∀ {a : AV} {v : Value}, isObj a = false → VR ρ a v → VR ρ' a v
  | .none, _, _, x => x
  | .bool _, _, _, x => x
  | .int _, _, _, x => x
  | .str _, _, _, x => x
  | .obj _, _, h, _ => by cases h
  | .fn _, _, _, x => x
  | .bi _, _, _, x => x
  | .gref _, _, _, x => x
theorem VRs.mono {ρ ρ' : List Addr} (h : ρ <+: ρ') : ∀ {as : List AV} {vs : List Value}, VRs ρ as vs → VRs ρ' as vs
  | [], [], _ => trivial
  | _ :: _, _ :: _, ⟨x, y⟩ => ⟨x.mono h, y.mono h⟩
theorem VRs.imm {ρ ρ' : List Addr} : ∀ {as : List AV} {vs : List Value}, as.any isObj = false → VRs ρ as vs → VRs ρ' as vs
  | [], [], _, _ => trivial
  | a :: as, _ :: _, h, ⟨x, y⟩ => by
    rw [List.any_cons, Bool.or_eq_false_iff] at h
    exact ⟨x.imm h.1, y.imm h.2⟩
theorem VRs.length {ρ : List Addr} : ∀ {as : List AV} {vs : List Value}, VRs ρ as vs → vs.length = as.length
  | [], [], _ => rfl
  | _ :: _, _ :: _, ⟨_, y⟩ => by rw [List.length_cons, List.length_cons, y.length]
theorem VRs.append {ρ : List Addr} : ∀ {as bs : List AV} {vs ws : List Value}, VRs ρ as vs → VRs ρ bs ws → VRs ρ (as ++ bs) (vs ++ ws)
  | [], _, [], _, _, h => h
  | _ :: _, _, _ :: _, _, ⟨x, y⟩, h => ⟨x, y.append h⟩
theorem VRs.get {ρ : List Addr} : ∀ {as : List AV} {vs : List Value}, VRs ρ as vs → ∀ {i : Nat} {a : AV}, as[i]? = some a → ∃ v, vs[i]? = some v ∧ VR ρ a v
  | [], _, _, _, _, e => by simp at e
  | _ :: _, [], h, _, _, _ => h.elim
  | _ :: _, _ :: _, ⟨x, _⟩, 0, _, e => by simp at e; subst e; exact ⟨_, rfl, x⟩
  | _ :: _, _ :: _, ⟨_, y⟩, i + 1, _, e => by simp at e; obtain ⟨v, e', r⟩ := y.get e; exact ⟨v, by simpa using e', r⟩
theorem VRs.get' {ρ : List Addr} : ∀ {as : List AV} {vs : List Value}, VRs ρ as vs → ∀ {i : Nat} {v : Value}, vs[i]? = some v → ∃ a, as[i]? = some a ∧ VR ρ a v
  | _, [], _, _, _, e => by simp at e
  | [], _ :: _, h, _, _, _ => h.elim
  | _ :: _, _ :: _, ⟨x, _⟩, 0, _, e => by simp at e; subst e; exact ⟨_, rfl, x⟩
  | _ :: _, _ :: _, ⟨_, y⟩, i + 1, _, e => by simp at e; obtain ⟨v, e', r⟩ := y.get' e; exact ⟨v, by simpa using e', r⟩
theorem VRs.take {ρ : List Addr} : ∀ {as : List AV} {vs : List Value} (n : Nat), VRs ρ as vs → VRs ρ (as.take n) (vs.take n)
  | _, _, 0, _ => by simp [VRs]
  | [], [], _ + 1, _ => by simp [VRs]
  | _ :: _, _ :: _, n + 1, ⟨x, y⟩ => by simp only [List.take_succ_cons]; exact ⟨x, y.take n⟩
theorem VRs.drop {ρ : List Addr} : ∀ {as : List AV} {vs : List Value} (n : Nat), VRs ρ as vs → VRs ρ (as.drop n) (vs.drop n)
  | _, _, 0, h => by simpa using h
  | [], [], _ + 1, _ => by simp [VRs]
  | _ :: _, _ :: _, n + 1, ⟨_, y⟩ => by simp only [List.drop_succ_cons]; exact y.drop n
theorem VRs.reverse {ρ : List Addr} : ∀ {as : List AV} {vs : List Value}, VRs ρ as vs → VRs ρ as.reverse vs.reverse
  | [], [], _ => trivial
  | _ :: _, _ :: _, ⟨x, y⟩ => by rw [List.reverse_cons, List.reverse_cons]; exact y.reverse.append ⟨x, trivial⟩

noncomputable def ObjIs (ρ : List Addr) (h : Heap) (a : Addr) : AObj → Prop
  | .list xs => xs.length ≤ lim ∧ ∃ vs : List Value, h.PlainList a vs.toArray ∧ VRs ρ xs vs
  | .flist xs => xs.length ≤ lim ∧ ∃ vs : List Value, h.PlainList a vs.toArray ∧ VRs ρ xs vs
  | .tup xs => xs.length ≤ lim ∧ ∃ vs : List Value, h.IsTuple a vs.toArray ∧ VRs ρ xs vs
  | .ns m => ∃ f, h.Ns a f ∧ ∀ x v, lkp x m = some v → ∃ w, f x = some w ∧ VR ρ v w
  | .cell c => ∃ w, h.IsCell a w ∧ ∀ v, c = some v → ∃ u, w = some u ∧ VR ρ v u
theorem ObjIs.lt {ρ : List Addr} {h : Heap} {a : Addr} : ∀ {o : AObj}, ObjIs ρ h a o → a < h.objs.size
  | .list _, ⟨_, _, ⟨_, e⟩, _⟩ => Heap.lt_size e
  | .flist _, ⟨_, _, ⟨_, e⟩, _⟩ => Heap.lt_size e
  | .tup _, ⟨_, _, ⟨_, e, _⟩, _⟩ => Heap.lt_size e
  | .ns _, ⟨_, n, _⟩ => n.lt
  | .cell _, ⟨_, n, _⟩ => n.lt
theorem ObjIs.mono {ρ ρ' : List Addr} {h h' : Heap} {a : Addr} (hp : ρ <+: ρ') (e : ∀ o, h.get? a = some o → h'.get? a = some o) : ∀ {o : AObj}, ObjIs ρ h a o → ObjIs ρ' h' a o
  | .list _, ⟨z, vs, l, r⟩ => ⟨z, vs, l.at e, r.mono hp⟩
  | .flist _, ⟨z, vs, l, r⟩ => ⟨z, vs, l.at e, r.mono hp⟩
  | .tup _, ⟨z, vs, l, r⟩ => ⟨z, vs, l.at e, r.mono hp⟩
  | .ns _, ⟨f, n, r⟩ => ⟨f, n.at' e, fun x v q => let ⟨w, e', y⟩ := r x v q; ⟨w, e', y.mono hp⟩⟩
  | .cell _, ⟨w, ⟨o, ho, hd⟩, r⟩ => ⟨w, ⟨o, e _ ho, hd⟩, fun v q => let ⟨u, e', y⟩ := r v q; ⟨u, e', y.mono hp⟩⟩

noncomputable def isMut : AObj → Bool
  | .flist _ => false
  | .tup _ => false
  | _ => true
noncomputable abbrev Base := Addr → Option Obj
structure St (B : Base) (ρ : List Addr) (H : Hp) (s : Shared) : Prop where
  kept : ∀ b o, B b = some o → s.heap.get? b = some o
  len : ρ.length = H.length
  nodup : ρ.Nodup
  own : ∀ (i : Nat) (a : Addr) (o : AObj), ρ[i]? = some a → H[i]? = some o → isMut o = true → B a = none
  objs : ∀ (i : Nat) (a : Addr) (o : AObj), ρ[i]? = some a → H[i]? = some o → ObjIs ρ s.heap a o

section
variable {B : Base} {ρ : List Addr} {H : Hp} {s : Shared}
theorem St.addr (S : St B ρ H s) {k : Nat} {o : AObj} (e : H[k]? = some o) : ∃ a, ρ[k]? = some a ∧ ObjIs ρ s.heap a o := by
  have hk : k < ρ.length := by rw [S.len]; exact (List.getElem?_eq_some_iff.mp e).1
  exact ⟨ρ[k], List.getElem?_eq_getElem hk, S.objs k _ o (List.getElem?_eq_getElem hk) e⟩
theorem St.lt (S : St B ρ H s) {k : Nat} {a : Addr} (e : ρ[k]? = some a) : a < s.heap.objs.size := by
  have hk : k < H.length := by rw [← S.len]; exact (List.getElem?_eq_some_iff.mp e).1
  exact (S.objs k a _ e (List.getElem?_eq_getElem hk)).lt
theorem St.mem_lt (S : St B ρ H s) {a : Addr} (h : a ∈ ρ) : a < s.heap.objs.size := by
  obtain ⟨k, hk, rfl⟩ := List.mem_iff_getElem.mp h
  exact S.lt (List.getElem?_eq_getElem hk)
theorem St.inj (S : St B ρ H s) {i j : Nat} {a : Addr} (e1 : ρ[i]? = some a) (e2 : ρ[j]? = some a) : i = j := by
  obtain ⟨h1, r1⟩ := List.getElem?_eq_some_iff.mp e1
  obtain ⟨h2, r2⟩ := List.getElem?_eq_some_iff.mp e2
  exact (List.getElem_inj S.nodup).mp (r1.trans r2.symm)
theorem St.toks (S : St B ρ H s) (t : Nat) : St B ρ H { s with toks := t } := ⟨S.kept, S.len, S.nodup, S.own, S.objs⟩
/-- nothing that stood was changed -/
theorem St.grow (S : St B ρ H s) {h' : Heap} (k : ∀ b o, s.heap.get? b = some o → h'.get? b = some o) (t : Nat) : St B ρ H { s with heap := h', toks := t } :=
  ⟨fun b o e => k b o (S.kept b o e), S.len, S.nodup, S.own, fun i a o e1 e2 => (S.objs i a o e1 e2).mono (List.prefix_refl _) (k a)⟩
theorem ObjIs.stands {ρ : List Addr} {h : Heap} {a : Addr} : ∀ {o : AObj}, ObjIs ρ h a o → ∃ ob, h.get? a = Option.some ob
  | .list _, ⟨_, _, ⟨_, e⟩, _⟩ => ⟨_, e⟩
  | .flist _, ⟨_, _, ⟨_, e⟩, _⟩ => ⟨_, e⟩
  | .tup _, ⟨_, _, ⟨_, e, _⟩, _⟩ => ⟨_, e⟩
  | .ns _, ⟨_, ⟨_, _, _, e, _⟩, _⟩ => ⟨_, e⟩
  | .cell _, ⟨_, ⟨_, e, _⟩, _⟩ => ⟨_, e⟩
theorem none_of_size {h : Heap} {a : Addr} (ha : h.objs.size ≤ a) : h.get? a = none := by
  cases e : h.get? a with
  | none => rfl
  | some o => exact absurd (Heap.lt_size e) (Nat.not_lt.mpr ha)
/-- a new thing -/
theorem St.addN (S : St B ρ H s) {h' : Heap} {a : Addr} {o : AObj} (k : ∀ b o, s.heap.get? b = some o → h'.get? b = some o) (ha : s.heap.get? a = none) (hb : isMut o = true → B a = none) (ho : ObjIs (ρ ++ [a]) h' a o) (t : Nat) :
    St B (ρ ++ [a]) (H ++ [o]) { s with heap := h', toks := t } := by
  have na : a ∉ ρ := fun h => by
    obtain ⟨j, hj, e⟩ := List.mem_iff_getElem.mp h
    have hjH : j < H.length := by rw [← S.len]; exact hj
    obtain ⟨ob, e'⟩ := (S.objs j a _ (by rw [List.getElem?_eq_getElem hj, e]) (List.getElem?_eq_getElem hjH)).stands
    rw [ha] at e'; cases e'
  refine ⟨fun b o e => k b o (S.kept b o e), by simp [S.len], ?_, ?_, ?_⟩
  · rw [List.nodup_append]
    exact ⟨S.nodup, by simp, fun x hx y hy e => by rw [List.mem_singleton.mp hy] at e; exact na (e ▸ hx)⟩
  · intro i b o' e1 e2 hm
    by_cases hi : i < ρ.length
    · rw [List.getElem?_append_left hi] at e1
      rw [List.getElem?_append_left (by rw [← S.len]; exact hi)] at e2
      exact S.own i b o' e1 e2 hm
    · rw [List.getElem?_append_right (Nat.le_of_not_lt hi)] at e1
      rw [List.getElem?_append_right (by rw [← S.len]; exact Nat.le_of_not_lt hi)] at e2
      rw [← S.len] at e2
      cases hd : i - ρ.length with
      | zero => rw [hd] at e1 e2; simp at e1 e2; subst e1 e2; exact hb hm
      | succ n => rw [hd] at e1; simp at e1
  · intro i b o' e1 e2
    by_cases hi : i < ρ.length
    · rw [List.getElem?_append_left hi] at e1
      rw [List.getElem?_append_left (by rw [← S.len]; exact hi)] at e2
      exact (S.objs i b o' e1 e2).mono (List.prefix_append ..) (k b)
    · rw [List.getElem?_append_right (Nat.le_of_not_lt hi)] at e1
      rw [List.getElem?_append_right (by rw [← S.len]; exact Nat.le_of_not_lt hi)] at e2
      rw [← S.len] at e2
      cases hd : i - ρ.length with
      | zero => rw [hd] at e1 e2; simp at e1 e2; subst e1 e2; exact ho
      | succ n => rw [hd] at e1; simp at e1
theorem St.add (S : St B ρ H s) {h' : Heap} {a : Addr} {o : AObj} (k : ∀ b o, s.heap.get? b = some o → h'.get? b = some o) (ha : s.heap.objs.size ≤ a) (hb : isMut o = true → B a = none) (ho : ObjIs (ρ ++ [a]) h' a o) (t : Nat) :
    St B (ρ ++ [a]) (H ++ [o]) { s with heap := h', toks := t } := S.addN k (none_of_size ha) hb ho t
theorem St.freshN (S : St B ρ H s) {a : Addr} (ha : s.heap.get? a = none) : B a = none := by
  cases e : B a with
  | none => rfl
  | some o => have := S.kept a o e; rw [ha] at this; cases this
theorem St.fresh (S : St B ρ H s) {a : Addr} (ha : s.heap.objs.size ≤ a) : B a = none := by
  cases e : B a with
  | none => rfl
  | some o => exact absurd (Heap.lt_size (S.kept a o e)) (Nat.not_lt.mpr ha)
/-- one thing is changed -/
theorem St.upd (S : St B ρ H s) {h' : Heap} {k : Nat} {a : Addr} {o o' : AObj} (e1 : ρ[k]? = some a) (e2 : H[k]? = some o) (hm : isMut o = true) (hs : Heap.SameBut a s.heap h') (ho : ObjIs ρ h' a o') (t : Nat) :
    St B ρ (H.set k o') { s with heap := h', toks := t } := by
  have hB := S.own k a o e1 e2 hm
  have ne : ∀ i b, ρ[i]? = some b → i ≠ k → b ≠ a := fun i b e hi hb => hi (S.inj e (hb ▸ e1))
  refine ⟨fun b ob e => (hs.2 b (fun q => by rw [q, hB] at e; cases e)).trans (S.kept b ob e), by rw [List.length_set]; exact S.len, S.nodup, ?_, ?_⟩
  · intro i b ob x1 x2 hmb
    by_cases hi : i = k
    · subst hi; rw [e1] at x1; cases x1; exact hB
    · rw [List.getElem?_set_ne (Ne.symm hi)] at x2; exact S.own i b ob x1 x2 hmb
  · intro i b ob x1 x2
    by_cases hi : i = k
    · subst hi
      rw [e1] at x1; cases x1
      rw [List.getElem?_set_self (List.getElem?_eq_some_iff.mp e2).1] at x2
      cases x2; exact ho
    · rw [List.getElem?_set_ne (Ne.symm hi)] at x2
      exact (S.objs i b ob x1 x2).mono (List.prefix_refl _) fun o e => (hs.2 b (ne i b x1 hi)).trans e
end
end Mine

namespace Mine
open PySem PySem.Calls PyProof.Rows

noncomputable def Same (s s' : Shared) : Prop := ∃ h t, s' = { s with heap := h, toks := t }
theorem Same.refl (s : Shared) : Same s s := ⟨s.heap, s.toks, rfl⟩
theorem Same.trans {a b c : Shared} (x : Same a b) (y : Same b c) : Same a c := by
  obtain ⟨h, t, rfl⟩ := x
  obtain ⟨h', t', rfl⟩ := y
  exact ⟨h', t', rfl⟩
theorem Same.mk (s : Shared) (h : Heap) (t : Nat) : Same s { s with heap := h, toks := t } := ⟨h, t, rfl⟩

noncomputable def Post {α : Type} (B : Base) (ρ : List Addr) (s : Shared) (H' : Hp) (R : List Addr → α → Prop) (a : α) (s' : Shared) : Prop :=
  Same s s' ∧ ∃ ρ', ρ <+: ρ' ∧ R ρ' a ∧ St B ρ' H' s'
theorem Post.up {α : Type} {B : Base} {ρ ρ₁ : List Addr} {s s₁ s₂ : Shared} {H₂ : Hp} {R : List Addr → α → Prop} {a : α} (x : Same s s₁) (p : ρ <+: ρ₁) (h : Post B ρ₁ s₁ H₂ R a s₂) : Post B ρ s H₂ R a s₂ :=
  ⟨x.trans h.1, h.2.imp fun _ r => ⟨p.trans r.1, r.2⟩⟩
theorem Post.here {α : Type} {B : Base} {ρ : List Addr} {s s' : Shared} {H' : Hp} {R : List Addr → α → Prop} {a : α} (x : Same s s') (r : R ρ a) (S : St B ρ H' s') : Post B ρ s H' R a s' := ⟨x, ρ, List.prefix_refl _, r, S⟩
section
variable {α : Type} {M : Model} {A : Around} {E : Value → Shared → Prop} {B : Base} {ρ : List Addr} {s : Shared} {H₁ : Hp}
theorem nxt {t : Sem α} {R₁ : List Addr → α → Prop} {Q : α → Shared → Prop} (h : wpAny M A t (Post B ρ s H₁ R₁) E s)
    (k : ∀ a s₁ ρ₁, Same s s₁ → ρ <+: ρ₁ → R₁ ρ₁ a → St B ρ₁ H₁ s₁ → Q a s₁) : wpAny M A t Q E s :=
  wpAny_mono h (fun a s₁ ⟨x, ρ₁, p, r, S⟩ => k a s₁ ρ₁ x p r S) fun _ _ e => e
end

structure EnvOk (ρ : List Addr) (ae : AEnv) (env : Env) : Prop where
  kind : env.scope.kind = .function
  glob : env.globals = mainGlobals
  bn : env.builtins = builtinsNs
  loc : ρ[ae.locals]? = some env.locals
  names : ∀ x k, lkp x ae.names = some k → env.kindOf x = some k ∨ (k = .free ∧ env.kindOf x = some .cell)
  cells : ∀ x k, lkp x ae.cells = some k → ∃ a, env.cells.lookup x = some a ∧ ρ[k]? = some a
theorem EnvOk.mono {ρ ρ' : List Addr} {ae : AEnv} {env : Env} (p : ρ <+: ρ') (h : EnvOk ρ ae env) : EnvOk ρ' ae env :=
  ⟨h.kind, h.glob, h.bn, get_pre p h.loc, h.names, fun x k e => let ⟨a, e1, e2⟩ := h.cells x k e; ⟨a, e1, get_pre p e2⟩⟩

structure Rm (A : Around) (n : Nat) : Prop where
  handled : A.handled = none
  depth : A.depth + n < 900
  units : A.units + 10 * n < 9000
theorem Rm.le {A : Around} {n m : Nat} (h : Rm A n) (l : m ≤ n) : Rm A m := ⟨h.handled, by have := h.depth; omega, by have := h.units; omega⟩
theorem Rm.deeper {A : Around} {n : Nat} (h : Rm A (n + 1)) (env : Env) : Rm (A.deeper env) n := ⟨h.handled, by have := h.depth; show A.depth + 1 + n < 900; omega, by have := h.units; show A.units + 3 + 10 * n < 9000; omega⟩

/-- a def of the text's, as the ground bears it -/
structure FnOk (h₀ : Heap) (a : Addr) (fd : FuncData) : Prop where
  obj : ∃ o, h₀.get? a = some o ∧ o.data = .func fd
  code : h₀.CodeRec fd.code fd.qualname
  clos : fd.closure = []
  glob : fd.globals = mainGlobals
  bn : fd.builtins = builtinsNs
  co : fd.scope.isCoroutine = false
  gen : fd.scope.isGenerator = false
  kind : fd.scope.kind = .function
  nodup : nodupN fd.scope.names = true
  binds : fd.params.vararg = none → ∀ (vs : List Value) (s : Shared), vs.length = (fd.params.args.map (·.arg)).length → BindsTo s fd ⟨vs, []⟩ ((fd.params.args.map (·.arg)).zip vs)
  bindv : ∀ v, fd.params.vararg = some v → ∀ (vs : List Value) (s : Shared) (M : Model) (A : Around) (E : Value → Shared → Prop) (Q : List (Str × Value) → Shared → Prop), vs.length = 7 →
    wpAny M A (newTuple (vs.drop (fd.params.args.map (·.arg)).length)) (fun t s' => Q ((fd.params.args.map (·.arg)).zip vs ++ [(v.arg, t)]) s') E s → wpAny M A (bindArgs fd ⟨vs, []⟩) Q E s

noncomputable def OrcOk (prog : Program) (w : World) (h₀ : Heap) (r : Nat) (a : Addr) (vs : List AV) (K : Value → Shared → Shared → Prop) : Prop :=
  ∀ (ws : List Value) (A : Around) (s : Shared) (R : Result → Shared → Prop), VRs [] vs ws → Rm A r → (∀ b o, h₀.get? b = some o → s.heap.get? b = some o) →
    (∀ x s', K x s s' → R (.ok (.ret x)) s') → codeAny (model prog w) A (.call (.ref a) ⟨ws, []⟩) R s

structure Gd (prog : Program) (w : World) (cx : Cx) (h₀ : Heap) : Prop where
  glob : ∀ x v, lkp x cx.glob = some v → ∃ u, VR [] v u ∧ ∀ (M : Model) (A : Around) (env : Env) (E : Value → Shared → Prop) (Q : Value → Shared → Prop) (s : Shared),
    env.globals = mainGlobals → env.builtins = builtinsNs → (∀ b o, h₀.get? b = some o → s.heap.get? b = some o) → Q u s → wpAny M A (loadGlobal env x) Q E s
  nolimit : h₀.NoLimit
  fn : ∀ a fd, cx.fn a = some fd → FnOk h₀ a fd
  gtup : ∀ a xs, cx.gtup a = some xs → xs.length ≤ lim ∧ xs.any isObj = false ∧ ∃ vs : List Value, h₀.IsTuple a vs.toArray ∧ VRs [] xs vs
  orc : ∀ a vs r, cx.orc a vs = some r → vs.any isObj = false ∧ isObj r = false ∧ (∃ o fd, h₀.get? a = some o ∧ o.data = .func fd) ∧ OrcOk prog w h₀ cx.r a vs fun x s s' => ∃ h' t, s' = { s with heap := h', toks := t } ∧ VR [] r x ∧ ∀ b o, s.heap.get? b = some o → h'.get? b = some o
  orcL : ∀ a vs xs, cx.orcL a vs = some xs → vs.any isObj = false ∧ xs.any isObj = false ∧ xs.length ≤ lim ∧ (∃ o fd, h₀.get? a = some o ∧ o.data = .func fd) ∧ OrcOk prog w h₀ cx.r a vs fun x s s' => ∃ h' t d ys, s' = { s with heap := h', toks := t } ∧ x = .ref d ∧ s.heap.get? d = none ∧ h'.PlainList d (List.toArray ys) ∧ VRs [] xs ys ∧ ∀ b o, s.heap.get? b = some o → h'.get? b = some o

section
variable {prog : Program} {w : World} {cx : Cx} {h₀ : Heap}

noncomputable def Snd1 (prog : Program) (w : World) (h₀ : Heap) (f : AEnv → Hp → X → Option (AV × Hp)) (n : Nat) : Prop :=
  ∀ m e ae env B ρ H s A v H', f ae H (cE m e) = some (v, H') → (∀ b o, h₀.get? b = some o → B b = some o) → EnvOk ρ ae env → St B ρ H s → Rm A n →
    ∀ E, wpAny (model prog w) A (eval e env) (Post B ρ s H' fun ρ' x => VR ρ' v x) E s
noncomputable def Snd2 (prog : Program) (w : World) (h₀ : Heap) (f : AEnv → Hp → X → Option (Bool × Hp)) (n : Nat) : Prop :=
  ∀ m e ae env B ρ H s A b H', f ae H (cE m e) = some (b, H') → (∀ b o, h₀.get? b = some o → B b = some o) → EnvOk ρ ae env → St B ρ H s → Rm A n →
    ∀ E, wpAny (model prog w) A (isTrue e env (eval e env)) (Post B ρ s H' fun _ x => x = b) E s
noncomputable def FR (f : AFlow) (ρ : List Addr) (g : Flow) : Prop := match f with
  | .next => g = .next
  | .brk => g = .brk
  | .cont => g = .cont
  | .ret v => ∃ x, g = .ret x ∧ VR ρ v x
noncomputable def Snd3 (prog : Program) (w : World) (h₀ : Heap) (f : AEnv → Hp → List XS → Option (AFlow × Hp)) (n : Nat) : Prop :=
  ∀ m k body ae env B ρ H s A fl H', f ae H (body.map (cS m k)) = some (fl, H') → (∀ b o, h₀.get? b = some o → B b = some o) → EnvOk ρ ae env → St B ρ H s → Rm A n →
    ∀ E, wpAny (model prog w) A (execs body env) (Post B ρ s H' (FR fl)) E s
noncomputable def Snd4 (prog : Program) (w : World) (h₀ : Heap) (f : Hp → Addr → List AV → Option (AV × Hp)) (n : Nat) : Prop :=
  ∀ a vs ws B ρ H s A v H', f H a vs = some (v, H') → (∀ b o, h₀.get? b = some o → B b = some o) → VRs ρ vs ws → St B ρ H s → Rm A n →
    ∀ R, (∀ x s', Post B ρ s H' (fun ρ' x => VR ρ' v x) x s' → R (.ok (.ret x)) s') → codeAny (model prog w) A (.call (.ref a) ⟨ws, []⟩) R s
noncomputable def UseOk (prog : Program) (w : World) (A : Around) (E : Value → Shared → Prop) (B : Base) (ρ : List Addr) (s : Shared) (v : AV) (H' : Hp) (use : Option (Value → Sem Unit)) (Q : Value → Shared → Prop) : Prop := match use with
  | none => ∀ x s', Post B ρ s H' (fun ρ' x => VR ρ' v x) x s' → Q x s'
  | some u => ∀ (B' : Base) x s₁ ρ₁, (∀ b o, B b = some o → B' b = some o) → Same s s₁ → ρ <+: ρ₁ → VR ρ₁ v x → St B' ρ₁ H' s₁ →
    wpAny (model prog w) A (u x) (fun _ s₂ => ∃ H₂, Same s₁ s₂ ∧ St B' ρ₁ H₂ s₂ ∧ ∀ s₃, Same s₂ s₃ → St B ρ₁ H₂ s₃ → Q .none s₃) E s₁
/-- a comprehension that is stored at once -/
noncomputable def Snd5 (prog : Program) (w : World) (h₀ : Heap) (f : AEnv → Hp → X → Option (AV × Hp)) (n : Nat) : Prop :=
  ∀ m elt gens scope pos ae env B ρ H s A v H', f ae H (cE m (.ListComp elt gens scope pos)) = some (v, H') → (∀ b o, h₀.get? b = some o → B b = some o) → EnvOk ρ ae env → St B ρ H s → Rm A n →
    ∀ E (u : Value → Sem Unit) (Q : Unit → Shared → Prop), UseOk prog w A E B ρ s v H' (some u) (fun _ s' => Q () s') → wpAny (model prog w) A (evalThenUse (.ListComp elt gens scope pos) env u) Q E s
structure Snd (prog : Program) (w : World) (h₀ : Heap) (ih : Ev) (n : Nat) : Prop where
  e : Snd1 prog w h₀ ih.e n
  t : Snd2 prog w h₀ ih.t n
  x : Snd3 prog w h₀ ih.x n
  c : Snd4 prog w h₀ ih.c n
  u : Snd5 prog w h₀ ih.e n
  nb : ∀ ae H, ih.e ae H .bad = none
  cf : ∀ H a vs r, ih.c H a vs = some r → ∃ o fd, h₀.get? a = some o ∧ o.data = .func fd
theorem snd0 : Snd prog w h₀ ev0 0 := ⟨fun _ _ _ _ _ _ _ _ _ _ _ h => (by cases h), fun _ _ _ _ _ _ _ _ _ _ _ h => (by cases h), fun _ _ _ _ _ _ _ _ _ _ _ _ h => (by cases h), fun _ _ _ _ _ _ _ _ _ _ h => (by cases h), fun _ _ _ _ _ _ _ _ _ _ _ _ _ _ h => (by cases h), fun _ _ => rfl, fun _ _ _ _ h => (by cases h)⟩

/-! names -/
variable {B : Base} {ρ : List Addr} {H : Hp} {s : Shared} {ae : AEnv} {env : Env} {A : Around} {E : Value → Shared → Prop}
theorem loadName_free' {M : Model} {name : Str} {c : Addr} {v : Value} {Q : Value → Shared → Prop} (hk : env.scope.kind = .function) (hl : env.kindOf name = some .free)
    (hc : env.cells.lookup name = some c) (hv : s.heap.IsCell c (some v)) (h : Q v s) (hn : (name == ("__classdict__" : Str)) = false) : wpAny M A (loadName env name) Q E s :=
  wpAny_loadName_free hk hl hc hv h hn

theorem rdVar_sound {x : Str} {v : AV} (G : Gd prog w cx h₀) (e : rdVar cx ae H x = some v) (hB : ∀ b o, h₀.get? b = some o → B b = some o) (V : EnvOk ρ ae env) (S : St B ρ H s)
    {Q : Value → Shared → Prop} (h : ∀ u, VR ρ v u → Q u s) : wpAny (model prog w) A (loadName env x) Q E s := by
  refine ooNK e ?_ ?_ ?_ ?_
  · clear e; intros; rename_i hk e
    refine ooNs e ?_
    clear e; intros; rename_i m hm e
    obtain ⟨a, ha, f, hn, hf⟩ := S.addr hm
    rw [V.loc] at ha; cases ha
    obtain ⟨u, hu, r⟩ := hf x v e
    rcases V.names x _ hk with q | q
    · exact wpAny_loadName_local V.kind q hn hu (h u r)
    · cases q.1
  · clear e; intros; rename_i hk e
    refine ooN e ?_
    clear e; intros; rename_i k hc e
    refine ooCell e ?_
    clear e; intros; rename_i c hm e
    obtain ⟨a, ha, cw, hn, hf⟩ := S.addr hm
    obtain ⟨a', hl, ha'⟩ := V.cells x k hc
    rw [ha] at ha'; cases ha'
    obtain ⟨u, rfl, r⟩ := hf v e
    rcases V.names x _ hk with q | q
    · exact wpAny_loadName_cell V.kind q hl hn (h u r)
    · cases q.1
  · clear e; intros; rename_i hk e
    split at e
    · cases e
    rename_i hcd
    replace hcd : (x == ("__classdict__" : Str)) = false := beq_eq_false_iff_ne.mpr (seq_false.mp hcd)
    refine ooN e ?_
    clear e; intros; rename_i k hc e
    refine ooCell e ?_
    clear e; intros; rename_i c hm e
    obtain ⟨a, ha, cw, hn, hf⟩ := S.addr hm
    obtain ⟨a', hl, ha'⟩ := V.cells x k hc
    rw [ha] at ha'; cases ha'
    obtain ⟨u, rfl, r⟩ := hf v e
    rcases V.names x _ hk with q | q
    · exact loadName_free' V.kind q hl hn (h u r) hcd
    · exact wpAny_loadName_cell V.kind q.2 hl hn (h u r)
  · clear e; intros; rename_i hk e
    obtain ⟨u, hu, k⟩ := G.glob x v e
    rcases V.names x _ hk with q | q
    · unfold loadName
      simp only [Env.blockKind, V.kind, q, ScopeKind.isAnnotationScope, Bool.false_and, Bool.false_eq_true, if_false]
      exact k _ _ _ _ _ _ V.glob V.bn (fun b o e => S.kept b o (hB b o e)) (h u (VR.mono (List.nil_prefix) hu))
    · cases q.1
theorem VR.nil {v : AV} {u : Value} (h : VR [] v u) (ρ : List Addr) : VR ρ v u := h.mono List.nil_prefix

theorem wrVar_sound {x : Str} {v : AV} {u : Value} {H' : Hp} (e : wrVar ae H x v = some H') (V : EnvOk ρ ae env) (S : St B ρ H s) (hv : VR ρ v u) {Q : Unit → Shared → Prop}
    (h : ∀ s', Same s s' → St B ρ H' s' → Q () s') : wpAny (model prog w) A (storeName env x u) Q E s := by
  refine ooNK2 e ?_ ?_
  · clear e; intros; rename_i hk e
    refine ooNs e ?_
    clear e; intros; rename_i m hm e
    cases e
    obtain ⟨a, ha, f, hn, hf⟩ := S.addr hm
    have hl := V.loc
    rw [hl] at ha; cases ha
    rcases V.names x _ hk with q | q
    · refine wpAny_storeName_local q hn (fun h' hn' hs' => h _ ⟨h', _, rfl⟩ (S.upd (o' := .ns (putv x v m)) hl hm rfl hs' ⟨_, hn', fun y z e => ?_⟩ _)) (by rw [V.kind]; rfl)
      rw [lkp_putv] at e
      by_cases hy : y = x
      · rw [if_pos hy] at e; cases e; exact ⟨u, by simp [hy], hv⟩
      · rw [if_neg hy] at e
        obtain ⟨w', e', r⟩ := hf y z e
        exact ⟨w', by simpa [hy] using e', r⟩
    · cases q.1
  · clear e; intros; rename_i hk e
    refine ooN e ?_
    clear e; intros; rename_i k hc e
    refine ooCell e ?_
    clear e; intros; rename_i c hm e
    cases e
    obtain ⟨a, ha, cw, hn, hf⟩ := S.addr hm
    obtain ⟨a', hl, ha'⟩ := V.cells x k hc
    have ha2 := ha
    rw [ha] at ha'; cases ha'
    rcases V.names x _ hk with q | q
    · refine wpAny_storeName_cell V.kind q hl hn (fun h' hn' hs' => h _ ⟨h', s.toks, rfl⟩ (S.upd (o' := .cell (some v)) ha2 hm rfl hs' ⟨_, hn', fun z e => ?_⟩ s.toks))
      cases e; exact ⟨u, rfl, hv⟩
    · cases q.1
end
end Mine

namespace Mine
open PySem PySem.Calls PyProof.Rows PySem.SeqAt

/-! == -/
theorem both_some {a b : Option Bool} {r : Bool} (h : both a b = some r) : ∃ x y, a = some x ∧ b = some y ∧ r = (x && y) := by
  cases a <;> cases b <;> simp [both] at h
  exact ⟨_, _, rfl, rfl, h.symm⟩
theorem either_some {a b : Option Bool} {r : Bool} (h : either a b = some r) : ∃ x y, a = some x ∧ b = some y ∧ r = (x || y) := by
  cases a <;> cases b <;> simp [either] at h
  exact ⟨_, _, rfl, rfl, h.symm⟩
noncomputable def atTwo (f : AV → AV → Option Bool) (xs ys : List AV) (j : Nat) : Bool := match xs[j]?, ys[j]? with
  | some a, some b => (f a b).getD false
  | _, _ => true
theorem allM_some (f : AV → AV → Option Bool) : ∀ {xs ys : List AV} {r : Bool}, allM f xs ys = some r →
    xs.length = ys.length ∧ (∀ (j : Nat) (a b : AV), xs[j]? = some a → ys[j]? = some b → f a b = some (atTwo f xs ys j)) ∧ r = (List.range xs.length).all (atTwo f xs ys)
  | [], [], r, h => by simp [allM] at h; subst h; simp
  | [], _ :: _, r, h => by simp [allM] at h
  | _ :: _, [], r, h => by simp [allM] at h
  | x :: xs, y :: ys, r, h => by
    refine hide fun GG hGG => ?_
    obtain ⟨u, v, e1, e2, rfl⟩ := both_some h
    obtain ⟨h1, h2, h3⟩ := allM_some f e2
    refine hGG ?_
    clear hGG GG
    refine ⟨by simp [h1], fun j a b ha hb => ?_, ?_⟩
    · cases j with
      | zero => simp at ha hb; subst ha hb; simp [atTwo, e1]
      | succ j => simp at ha hb; have := h2 j a b ha hb; simpa [atTwo, ha, hb] using this
    · rw [List.length_cons, List.range_succ_eq_map, List.all_cons, List.all_map, h3]
      have e0 : atTwo f (x :: xs) (y :: ys) 0 = u := by simp [atTwo, e1]
      rw [e0]
      congr 1
theorem aeq_same (H : Hp) : ∀ (n : Nat) (a : AV) (r : Bool), aeq H n a a = some r → r = true := by
  intro n
  induction n with
  | zero => intro a r h; simp [aeq] at h
  | succ n ih =>
    intro a r h
    cases a with
    | int i => exact end1 (P := fun r => r = true) h (by simp)
    | str x => exact end1 (P := fun r => r = true) h (seq_self x)
    | bool b => exact end1 (P := fun r => r = true) h (by simp)
    | obj k =>
      refine ooLA (show aeqL H (aeq H n) k k = some r from h) fun xs hx h => ?_
      refine ooLA h fun ys hy h => ?_
      rw [hx] at hy; cases hy
      have hb : Nat.beq xs.length xs.length = true := by simp
      rw [hb] at h
      obtain ⟨_, h2, h3⟩ := allM_some _ h
      rw [h3, List.all_eq_true]
      intro j hj
      have hj' : j < xs.length := by simpa using hj
      exact ih xs[j] _ (h2 j xs[j] xs[j] (List.getElem?_eq_getElem hj') (List.getElem?_eq_getElem hj'))
    | _ => exact ooNo h

/-- the four ways of == -/
theorem aeq_cases {H : Hp} {n : Nat} {a b : AV} {r : Bool} (h : aeq H (n + 1) a b = some r) :
    (∃ i j, a = .int i ∧ b = .int j ∧ r = (i == j)) ∨ (∃ x y, a = .str x ∧ b = .str y ∧ r = (x == y)) ∨ (∃ x y, a = .bool x ∧ b = .bool y ∧ r = (x == y)) ∨ ∃ k l, a = .obj k ∧ b = .obj l ∧ aeqL H (aeq H n) k l = some r := by
  cases a with
  | int i =>
    refine ooInt (show aeqI i b = some r from h) fun j hj h => .inl ⟨i, j, rfl, int?_some hj, ?_⟩
    rw [← Option.some.inj h]
    by_cases q : i = j <;> simp [q]
  | str x =>
    refine ooStr (show aeqS x b = some r from h) fun y hy h => .inr (.inl ⟨x, y, rfl, str?_some hy, ?_⟩)
    rw [← Option.some.inj h]
    cases z : seq x y with
    | true => rw [seq_iff.mp z]; simp
    | false => exact (beq_eq_false_iff_ne.mpr (seq_false.mp z)).symm
  | bool x => exact ooB (show aeqB x b = some r from h) fun y hy h => .inr (.inr (.inl ⟨x, y, rfl, bool?_some hy, (Option.some.inj h).symm⟩))
  | obj k => exact ooN (show aeqO H (aeq H n) k b = some r from h) fun l hl h => .inr (.inr (.inr ⟨k, l, rfl, obj?_some hl, h⟩))
  | _ => exact ooNo h

section
variable {B : Base} {ρ : List Addr} {H : Hp} {s : Shared}
theorem rdList_at (S : St B ρ H s) {k : Nat} {xs : List AV} (h : rdList H k = some xs) : xs.length ≤ lim ∧ ∃ a, ∃ vs : List Value, ρ[k]? = some a ∧ s.heap.PlainList a vs.toArray ∧ VRs ρ xs vs := by
  refine ooSL h ?_ ?_
  · clear h; intros; rename_i e h
    cases h
    refine hide fun GG hGG => ?_
    obtain ⟨a, ha, z, vs, hl, hv⟩ := S.addr e
    refine hGG ?_
    clear hGG GG
    exact ⟨z, a, vs, ha, hl, hv⟩
  · clear h; intros; rename_i e h
    cases h
    refine hide fun GG hGG => ?_
    obtain ⟨a, ha, z, vs, hl, hv⟩ := S.addr e
    refine hGG ?_
    clear hGG GG
    exact ⟨z, a, vs, ha, hl, hv⟩

theorem aeqL_sound (S : St B ρ H s) {n : Nat} (ih : ∀ (a b : AV) (r : Bool) (x y : Value) (A : Around), aeq H n a b = some r → VR ρ a x → VR ρ b y → A.units + n < cLine → EqAt A s x y r)
    {A : Around} {k l : Nat} {r : Bool} {x y : Value} (h : aeqL H (aeq H n) k l = some r) (hx : VR ρ (.obj k) x) (hy : VR ρ (.obj l) y) (hu : A.units + n + 1 < cLine) :
    ∃ a b, ∃ us vs : List Value, x = .ref a ∧ y = .ref b ∧ s.heap.IsList a us.toArray ∧ s.heap.IsList b vs.toArray ∧
      ((us.toArray.size ≠ vs.toArray.size ∧ r = false) ∨ (us.toArray.size = vs.toArray.size ∧ ∃ e : Nat → Bool, r = (List.range us.toArray.size).all e ∧ ∀ j (h1 : j < us.toArray.size) (h2 : j < vs.toArray.size), EqAt A.in1 s us.toArray[j] vs.toArray[j] (e j))) := by
  refine ooLA h ?_
  clear h; intros; rename_i xs ex h
  refine ooLA h ?_
  clear h; intros; rename_i ys ey h
  refine hide fun GG hGG => ?_
  obtain ⟨_, a, us, ha, hl, hv⟩ := rdList_at S ex
  obtain ⟨_, b, vs, hb, hm, hw⟩ := rdList_at S ey
  obtain ⟨a', ha', rfl⟩ := hx
  obtain ⟨b', hb', rfl⟩ := hy
  refine hGG ?_
  clear hGG GG
  rw [ha] at ha'; cases ha'
  rw [hb] at hb'; cases hb'
  refine ⟨a, b, us, vs, rfl, rfl, hl.isList, hm.isList, ?_⟩
  have l1 := hv.length
  have l2 := hw.length
  split at h
  · rename_i q
    right
    obtain ⟨h1, h2, h3⟩ := allM_some _ h
    refine ⟨by simp [l1, l2, h1], atTwo (aeq H n) xs ys, by rw [h3]; simp [l1], fun j q1 q2 => ?_⟩
    have q1' : j < us.length := by simpa using q1
    have q2' : j < vs.length := by simpa using q2
    have j1 : j < xs.length := by omega
    have j2 : j < ys.length := by omega
    refine hide fun GG hGG => ?_
    obtain ⟨u, eu, ru⟩ := hv.get (List.getElem?_eq_getElem j1)
    obtain ⟨v, ev, rv⟩ := hw.get (List.getElem?_eq_getElem j2)
    refine hGG ?_
    clear hGG GG
    have e1 : us.toArray[j] = u := by
      have := List.getElem?_eq_some_iff.mp eu; obtain ⟨_, e⟩ := this; simpa using e
    have e2 : vs.toArray[j] = v := by
      have := List.getElem?_eq_some_iff.mp ev; obtain ⟨_, e⟩ := this; simpa using e
    rw [e1, e2]
    exact ih _ _ _ u v A.in1 (h2 j _ _ (List.getElem?_eq_getElem j1) (List.getElem?_eq_getElem j2)) ru rv (by show A.units + 1 + n < cLine; omega)
  · rename_i q
    left
    cases h
    have : xs.length ≠ ys.length := Nat.ne_of_beq_eq_false q
    exact ⟨by simp [l1, l2]; exact this, rfl⟩

theorem aeq_sound (S : St B ρ H s) : ∀ (n : Nat) (a b : AV) (r : Bool) (x y : Value) (A : Around), aeq H n a b = some r → VR ρ a x → VR ρ b y → A.units + n < cLine → EqAt A s x y r := by
  intro n
  induction n with
  | zero => intro a b r x y A h; exact ooNo h
  | succ n ih =>
    intro a b r x y A h hx hy hu
    rcases aeq_cases h with ⟨i, j, rfl, rfl, rfl⟩ | ⟨p, q, rfl, rfl, rfl⟩ | ⟨p, q, rfl, rfl, rfl⟩ | ⟨k, l, rfl, rfl, hq⟩
    · obtain ⟨t, rfl⟩ := hx; obtain ⟨u, rfl⟩ := hy
      exact EqAt.int_int i t j u
    · obtain ⟨_, t, rfl⟩ := hx; obtain ⟨_, u, rfl⟩ := hy
      exact EqAt.str_str p t q u
    · cases hx; cases hy
      exact EqAt.bool_bool p q
    · refine hide fun GG hGG => ?_
      obtain ⟨a, b, us, vs, rfl, rfl, hl, hm, c⟩ := aeqL_sound S ih hq hx hy (A := A) (by omega)
      refine hGG ?_
      clear hGG GG
      by_cases hab : a = b
      · subst hab
        refine hide fun GG hGG => ?_
        obtain ⟨a1, e1, q1⟩ := hx
        obtain ⟨a2, e2, q2⟩ := hy
        refine hGG ?_
        clear hGG GG
        cases q1; cases q2
        have := S.inj e1 e2; subst this
        rw [aeq_same H _ _ _ h]
        exact EqAt.same _
      · refine EqAt.of_refs hab ?_
        rcases c with ⟨hne, rfl⟩ | ⟨heq, e, rfl, he⟩
        · exact RcAt.lists_lengths hl hm (by simpa using hne) (by omega)
        · exact RcAt.lists hl hm heq (by omega) he
theorem aeq_eq (S : St B ρ H s) {prog : Program} {w : World} {A : Around} {E : Value → Shared → Prop} {n : Nat} {a b : AV} {r : Bool} {x y : Value} {Q : Value → Shared → Prop} (h : aeq H (n + 1) a b = some r) (hx : VR ρ a x) (hy : VR ρ b y) (hu : A.units + n + 1 < cLine)
    (hQ : Q (.bool r) s) : wpAny (model prog w) A (compareOp .Eq x y) Q E s := by
  rcases aeq_cases h with ⟨i, j, rfl, rfl, rfl⟩ | ⟨p, q, rfl, rfl, rfl⟩ | ⟨p, q, rfl, rfl, rfl⟩ | ⟨k, l, rfl, rfl, hq⟩
  · obtain ⟨t, rfl⟩ := hx; obtain ⟨u, rfl⟩ := hy
    exact RcAt.int_int i t j u prog w E Q hQ
  · obtain ⟨_, t, rfl⟩ := hx; obtain ⟨_, u, rfl⟩ := hy
    exact RcAt.str_str p t q u prog w E Q hQ
  · cases hx; cases hy
    exact RcAt.bool_bool p q prog w E Q hQ
  · refine hide fun GG hGG => ?_
    obtain ⟨a, b, us, vs, rfl, rfl, hl, hm, c⟩ := aeqL_sound S (aeq_sound S n) hq hx hy (A := A) (by omega)
    refine hGG ?_
    clear hGG GG
    rcases c with ⟨hne, rfl⟩ | ⟨heq, e, rfl, he⟩
    · exact RcAt.lists_lengths hl hm (by simpa using hne) (by omega) prog w E Q hQ
    · exact RcAt.lists hl hm heq (by omega) he prog w E Q hQ
theorem aeq_ne (S : St B ρ H s) {prog : Program} {w : World} {A : Around} {E : Value → Shared → Prop} {n : Nat} {a b : AV} {r : Bool} {x y : Value} {Q : Value → Shared → Prop} (h : aeq H (n + 1) a b = some r) (hx : VR ρ a x) (hy : VR ρ b y) (hu : A.units + n + 1 < cLine)
    (hQ : Q (.bool (!r)) s) : wpAny (model prog w) A (compareOp .NotEq x y) Q E s := by
  rcases aeq_cases h with ⟨i, j, rfl, rfl, rfl⟩ | ⟨p, q, rfl, rfl, rfl⟩ | ⟨p, q, rfl, rfl, rfl⟩ | ⟨k, l, rfl, rfl, hq⟩
  · obtain ⟨t, rfl⟩ := hx; obtain ⟨u, rfl⟩ := hy
    exact RcNeAt.int_int i t j u prog w E Q hQ
  · obtain ⟨_, t, rfl⟩ := hx; obtain ⟨_, u, rfl⟩ := hy
    exact RcNeAt.str_str p t q u prog w E Q hQ
  · cases hx; cases hy
    exact RcNeAt.bool_bool p q prog w E Q hQ
  · refine hide fun GG hGG => ?_
    obtain ⟨a, b, us, vs, rfl, rfl, hl, hm, c⟩ := aeqL_sound S (aeq_sound S n) hq hx hy (A := A) (by omega)
    refine hGG ?_
    clear hGG GG
    rcases c with ⟨hne, rfl⟩ | ⟨heq, e, rfl, he⟩
    · exact RcNeAt.lists_lengths hl hm (by simpa using hne) (by omega) prog w E Q hQ
    · exact RcNeAt.lists hl hm heq (by omega) he prog w E Q hQ
end
end Mine

namespace Mine
open PySem PySem.Calls PyProof.Rows PySem.SeqAt

section
variable {B : Base} {ρ : List Addr} {H : Hp} {s : Shared}
theorem isIn_some (f : AV → Option Bool) : ∀ {xs : List AV} {r : Bool}, isIn f xs = some r → (∀ x, x ∈ xs → f x = some ((f x).getD false)) ∧ r = xs.any fun x => (f x).getD false
  | [], r, h => by simp [isIn] at h; subst h; simp
  | x :: xs, r, h => by
    refine hide fun GG hGG => ?_
    obtain ⟨u, v, e1, e2, rfl⟩ := either_some h
    obtain ⟨h1, h2⟩ := isIn_some f e2
    refine hGG ?_
    clear hGG GG
    refine ⟨fun y hy => ?_, ?_⟩
    · rcases List.mem_cons.mp hy with rfl | hy
      · rw [e1]; rfl
      · exact h1 y hy
    · rw [List.any_cons, ← h2, e1]; rfl

/-- what a value of a list answers, by its place -/
noncomputable def valAns (ρ : List Addr) (f : AV → Option Bool) (xs : List AV) (v : Value) : Bool := by
  classical exact if h : ∃ a, a ∈ xs ∧ VR ρ a v then (f h.choose).getD false else false

theorem VRs.mem' : ∀ {as : List AV} {vs : List Value}, VRs ρ as vs → ∀ {v : Value}, v ∈ vs → ∃ a, a ∈ as ∧ VR ρ a v
  | [], _ :: _, h, _, _ => h.elim
  | _ :: _, [], h, _, _ => h.elim
  | [], [], _, _, hm => by cases hm
  | a :: as, u :: vs, ⟨x, y⟩, v, hm => by
    rcases List.mem_cons.mp hm with rfl | hm
    · exact ⟨a, List.mem_cons_self, x⟩
    · obtain ⟨b, hb, r⟩ := y.mem' hm; exact ⟨b, List.mem_cons_of_mem _ hb, r⟩
theorem aeq_data {H : Hp} {n : Nat} {a b : AV} {r : Bool} (h : aeq H (n + 1) a b = some r) : (∃ i, a = .int i) ∨ (∃ x, a = .str x) ∨ (∃ x, a = .bool x) ∨ ∃ k, a = .obj k := by
  cases a with
  | int i => exact .inl ⟨i, rfl⟩
  | str i => exact .inr (.inl ⟨i, rfl⟩)
  | bool i => exact .inr (.inr (.inl ⟨i, rfl⟩))
  | obj i => exact .inr (.inr (.inr ⟨i, rfl⟩))
  | _ => exact ooNo h
/-- the datum of a value, taken back -/
noncomputable def datOf (ρ : List Addr) (v : Value) : Option AV := by
  classical exact match v with
  | .int i _ => some (.int i)
  | .str x _ => some (.str x)
  | .bool x => some (.bool x)
  | .ref a => if h : ∃ k, ρ[k]? = some a then some (.obj h.choose) else none
  | _ => none
theorem datOf_eq (hn : ρ.Nodup) {a : AV} {v : Value} (d : (∃ i, a = .int i) ∨ (∃ x, a = .str x) ∨ (∃ x, a = .bool x) ∨ ∃ k, a = .obj k) (h : VR ρ a v) : datOf ρ v = some a := by
  rcases d with ⟨i, rfl⟩ | ⟨x, rfl⟩ | ⟨x, rfl⟩ | ⟨k, rfl⟩
  · obtain ⟨t, rfl⟩ := h; rfl
  · obtain ⟨_, t, rfl⟩ := h; rfl
  · cases h; rfl
  · classical
    refine hide fun GG hGG => ?_
    obtain ⟨x, hx, rfl⟩ := h
    refine hGG ?_
    clear hGG GG
    have hex : ∃ k, ρ[k]? = some x := ⟨k, hx⟩
    refine (dif_pos hex).trans ?_
    obtain ⟨h1, r1⟩ := List.getElem?_eq_some_iff.mp hex.choose_spec
    obtain ⟨h2, r2⟩ := List.getElem?_eq_some_iff.mp hx
    rw [(List.getElem_inj hn).mp (r1.trans r2.symm)]
theorem av_same (hn : ρ.Nodup) {a b : AV} {v : Value} (d : (∃ i, a = .int i) ∨ (∃ x, a = .str x) ∨ (∃ x, a = .bool x) ∨ ∃ k, a = .obj k) (d' : (∃ i, b = .int i) ∨ (∃ x, b = .str x) ∨ (∃ x, b = .bool x) ∨ ∃ k, b = .obj k) (ha : VR ρ a v) (hb : VR ρ b v) : a = b :=
  Option.some.inj ((datOf_eq hn d ha).symm.trans (datOf_eq hn d' hb))
theorem av_eq (hn : ρ.Nodup) : ∀ {a b : AV} {v : Value}, VR ρ a v → VR ρ b v → ∀ {H : Hp} {n : Nat} {c : AV} {r r' : Bool}, aeq H n a c = some r → aeq H n b c = some r' → r = r' := by
  intro a b v ha hb H n c r r' e1 e2
  cases n with
  | zero => exact ooNo e1
  | succ n =>
    have e : a = b := av_same hn (aeq_data e1) (aeq_data e2) ha hb
    rw [e, e2] at e1
    exact (Option.some.inj e1).symm

theorem isIn_at (S : St B ρ H s) {n : Nat} {a : AV} {x : Value} {A : Around} {xs : List AV} {vs : List Value} {r : Bool} (h : isIn (fun y => aeq H n y a) xs = some r) (hv : VRs ρ xs vs) (hx : VR ρ a x) (hu : A.units + n < cLine) :
    ∃ e : Value → Bool, (∀ y, y ∈ vs.toArray → EqAt A s y x (e y)) ∧ r = vs.toArray.any e := by
  obtain ⟨h1, h2⟩ := isIn_some _ h
  have key : ∀ b v, b ∈ xs → VR ρ b v → valAns ρ (fun y => aeq H n y a) xs v = (aeq H n b a).getD false := by
    intro b v hb hr
    unfold valAns
    have hex : ∃ a, a ∈ xs ∧ VR ρ a v := ⟨b, hb, hr⟩
    rw [dif_pos hex]
    have c := hex.choose_spec
    have e1 := h1 _ c.1
    have e2 := h1 _ hb
    exact av_eq S.nodup c.2 hr e1 e2
  refine ⟨valAns ρ (fun y => aeq H n y a) xs, fun y hy => ?_, ?_⟩
  · obtain ⟨b, hb, hr⟩ := hv.mem' (by simpa using hy)
    rw [key b y hb hr]
    exact aeq_sound S n b a _ y x A (h1 b hb) hr hx hu
  · rw [h2, List.any_toArray]
    clear h h1 h2
    have key' : ∀ (l : List AV) (us : List Value), VRs ρ l us → (∀ b, b ∈ l → b ∈ xs) → (l.any fun y => (aeq H n y a).getD false) = us.any (valAns ρ (fun y => aeq H n y a) xs) := by
      intro l
      induction l with
      | nil => intro us hu _; cases us with | nil => rfl | cons _ _ => exact hu.elim
      | cons b l ih =>
        intro us hu hs
        cases us with
        | nil => exact hu.elim
        | cons u us =>
          rw [List.any_cons, List.any_cons, ih us hu.2 fun c hc => hs c (List.mem_cons_of_mem _ hc), key b u (hs b List.mem_cons_self) hu.1]
    exact key' xs vs hv fun _ h => h

variable {prog : Program} {w : World} {A : Around} {E : Value → Shared → Prop}
theorem cmpop_sound (S : St B ρ H s) {op : CmpOp} {a b : AV} {r : Bool} {x y : Value} {Q : Value → Shared → Prop} (h : cmpop H op a b = some r) (hx : VR ρ a x) (hy : VR ρ b y) (hu : A.units + 20 < cLine)
    (hQ : Q (.bool r) s) : wpAny (model prog w) A (compareOp op x y) Q E s := by
  have hin : ∀ {r : Bool}, inA H a b = some r → ∃ d, ∃ vs : List Value, y = .ref d ∧ s.heap.IsList d vs.toArray ∧ ∃ f : Value → Bool, (∀ z, z ∈ vs.toArray → EqAt A.in1 s z x (f z)) ∧ r = vs.toArray.any f := by
    intro r h
    refine ooN h fun k hk h => ooLA h fun xs e h => ?_
    rw [obj?_some hk] at hy
    refine hide fun GG hGG => ?_
    obtain ⟨_, d, vs, hd, hl, hv⟩ := rdList_at S e
    obtain ⟨d', hd', rfl⟩ := hy
    refine hGG ?_
    clear hGG GG
    rw [hd] at hd'; cases hd'
    exact ⟨d, vs, rfl, hl.isList, isIn_at (A := A.in1) S h hv hx (by show A.units + 1 + 8 < cLine; omega)⟩
  cases op with
  | Eq => exact aeq_eq S (n := 7) h hx hy (by omega) hQ
  | NotEq =>
    refine hide fun GG hGG => ?_
    obtain ⟨q, e, rfl⟩ := Option.map_eq_some_iff.mp (show (aeq H 8 a b).map (!·) = some r from h)
    refine hGG ?_
    clear hGG GG
    exact aeq_ne S (n := 7) e hx hy (by omega) hQ
  | Lt =>
    refine ooInt (show ltA a b = some r from h) fun i hi h => ooInt h fun j hj h => ?_
    rw [int?_some hi] at hx; rw [int?_some hj] at hy
    obtain ⟨t, rfl⟩ := hx; obtain ⟨u, rfl⟩ := hy
    cases h; exact lt_int hQ
  | In =>
    refine hide fun GG hGG => ?_
    obtain ⟨d, vs, rfl, hl, f, h1, rfl⟩ := hin h
    refine hGG ?_
    clear hGG GG
    exact in_listAt f hl h1 hQ
  | NotIn =>
    refine hide fun GG hGG => ?_
    obtain ⟨q, e, rfl⟩ := Option.map_eq_some_iff.mp (show (inA H a b).map (!·) = some r from h)
    obtain ⟨d, vs, rfl, hl, f, h1, rfl⟩ := hin e
    refine hGG ?_
    clear hGG GG
    exact notIn_listAt f hl h1 hQ
  | _ => exact ooNo h

theorem truth_sound (S : St B ρ H s) {a : AV} {r : Bool} {x : Value} {Q : Bool → Shared → Prop} (h : truth H a = some r) (hx : VR ρ a x)
    (hQ : ∀ t, Q r { s with toks := t }) : wpAny (model prog w) A (truthy x) Q E s := by
  have hl := lim_le
  have hs : sizeLine < 2 ^ 62 := by rw [sizeLine_eq]; decide
  cases a with
  | bool b => cases hx; cases h; exact wpAny_truthy_bool (hQ s.toks)
  | none => cases hx; cases h; exact truthy_none (hQ s.toks)
  | int i =>
    obtain ⟨t, rfl⟩ := hx
    cases h
    refine truthy_int ?_
    have e : (i != 0) = !decide (i = 0) := by by_cases q : i = 0 <;> simp [q]
    rw [e]; exact hQ s.toks
  | str p =>
    refine hide fun GG hGG => ?_
    obtain ⟨z, t, rfl⟩ := hx
    refine hGG ?_
    clear hGG GG
    cases h
    have z' : p.length ≤ lim := z
    refine P.truthy_str (by omega) ?_
    have e : ((p.length : Int) != 0) = !p.cps.toList.isEmpty := by
      obtain ⟨⟨l⟩⟩ := p
      cases l with
      | nil => rfl
      | cons c l => simp [Str.length]; omega
    rw [e]; exact hQ _
  | obj k =>
    refine ooLA (show truthO H k = some r from h) fun xs e h => ?_
    cases h
    refine hide fun GG hGG => ?_
    obtain ⟨z, d, vs, hd, hl, hv⟩ := rdList_at S e
    obtain ⟨d', hd', rfl⟩ := hx
    refine hGG ?_
    clear hGG GG
    rw [hd] at hd'; cases hd'
    have hlen := hv.length
    refine wpAny_truthy_list hl.isList (by simp; omega) ?_
    have e : (!vs.toArray.isEmpty) = !xs.isEmpty := by
      cases xs <;> cases vs <;> simp at hlen ⊢
    rw [e]; exact hQ _
  | _ => exact ooNo h
end
end Mine

namespace Mine
open PySem PySem.Calls PyProof.Rows PySem.StrLaws Builtin Builtin.Str

/-! the words of texts -/
theorem pre_eq : ∀ (l r : List Nat), pre l r = (r.take l.length == l)
  | [], r => by simp [pre]
  | a :: l, [] => by simp [pre]
  | a :: l, b :: r => by
    unfold pre
    simp only [List.length_cons, List.take_succ_cons]
    cases h : Nat.beq a b with
    | true =>
      have := Nat.eq_of_beq_eq_true h; subst this
      simp only [pre_eq l r, List.cons_beq_cons, beq_self_eq_true, Bool.true_and]
    | false =>
      have : b ≠ a := fun e => Nat.ne_of_beq_eq_false h e.symm
      simp [this]
theorem startswith_eq (x y : Str) : Txt.startswith x y = pre y.cps.toList x.cps.toList := by
  unfold Txt.startswith
  rw [subAt_eq, List.drop_zero, pre_eq]
  show (decide (0 + y.length ≤ x.length) && (x.cps.toList.take y.cps.toList.length == y.cps.toList)) = _
  cases h : (x.cps.toList.take y.cps.toList.length == y.cps.toList) with
  | false => simp
  | true =>
    rw [beq_iff_eq] at h
    have := congrArg List.length h
    rw [List.length_take] at this
    have hx : x.length = x.cps.toList.length := rfl
    have hy : y.length = y.cps.toList.length := rfl
    rw [Bool.and_true, decide_eq_true_eq]; omega
theorem endswith_eq (x y : Str) : Txt.endswith x y = pre y.cps.toList.reverse x.cps.toList.reverse := by
  unfold Txt.endswith
  have hx : x.length = x.cps.toList.length := rfl
  have hy : y.length = y.cps.toList.length := rfl
  rw [subAt_eq, pre_eq, List.length_reverse]
  by_cases hl : y.length ≤ x.length
  · rw [decide_eq_true (by omega), Bool.true_and, List.take_reverse, Bool.eq_iff_iff, beq_iff_eq, beq_iff_eq, List.reverse_inj, List.take_of_length_le (by rw [List.length_drop]; omega), hx, hy]
  · rw [decide_eq_false (by omega), Bool.false_and]
    symm
    rw [beq_eq_false_iff_ne]
    intro h
    have := congrArg List.length h
    rw [List.length_take, List.length_reverse, List.length_reverse] at this; omega

theorem countOf_append (c : Nat) : ∀ a b : List Nat, countOf c (a ++ b) = countOf c a + countOf c b
  | [], b => by simp [countOf]
  | x :: a, b => by
    simp only [List.cons_append, countOf]
    cases Nat.beq x c with
    | true => simp only [countOf_append c a b]; omega
    | false => exact countOf_append c a b
theorem countOf_zero {c : Nat} : ∀ {l : List Nat}, c ∉ l → countOf c l = 0
  | [], _ => rfl
  | x :: l, h => by
    have h1 : x ≠ c := fun e => h (e ▸ List.mem_cons_self)
    have h2 : c ∉ l := fun m => h (List.mem_cons_of_mem _ m)
    have : Nat.beq x c = false := by
      cases q : Nat.beq x c with
      | false => rfl
      | true => exact absurd (Nat.eq_of_beq_eq_true q) h1
    simp only [countOf, this]; exact countOf_zero h2
theorem countOf_at {x : Str} {c : Nat} : ∀ {cuts : List Nat} {a f : Nat}, ChainG x ⟨#[c]⟩ x.length a cuts f → (∀ k, f ≤ k → ¬ At x ⟨#[c]⟩ x.length k) → countOf c (x.cps.toList.drop a) = cuts.length
  | [], a, f, h, hn => by
    have e : f = a := h
    subst e
    refine countOf_zero fun hm => ?_
    obtain ⟨j, hj⟩ := List.getElem?_of_mem hm
    rw [List.getElem?_drop] at hj
    exact hn (f + j) (by omega) ((subAt_one x c _).mpr hj)
  | i :: r, a, f, ⟨h1, h2, h3, h4⟩, hn => by
    have hi := (subAt_one x c i).mp h2
    have hlt := (List.getElem?_eq_some_iff.mp hi).1
    have e : x.cps.toList.drop a = (x.cps.toList.drop a).take (i - a) ++ x.cps.toList.drop i := by
      conv => lhs; rw [← List.take_append_drop (i - a) (x.cps.toList.drop a)]
      rw [List.drop_drop, show a + (i - a) = i by omega]
    have e2 : x.cps.toList.drop i = c :: x.cps.toList.drop (i + 1) := by
      rw [List.drop_eq_getElem_cons hlt]
      have := (List.getElem?_eq_some_iff.mp hi).2
      rw [this]
    rw [e, countOf_append, countOf_zero, e2]
    · have := countOf_at h4 hn
      have hone : (⟨#[c]⟩ : Str).length = 1 := rfl
      rw [hone] at this
      simp only [countOf, show Nat.beq c c = true from Nat.beq_refl c]
      rw [this, List.length_cons]; omega
    · intro hm
      obtain ⟨j, hj⟩ := List.getElem?_of_mem hm
      have hlt' := (List.getElem?_eq_some_iff.mp hj).1
      rw [List.length_take] at hlt'
      rw [List.getElem?_take_of_lt (by omega), List.getElem?_drop] at hj
      exact h3 (a + j) (by omega) (by omega) ((subAt_one x c _).mpr hj)
theorem count_eq (x : Str) (c : Nat) : Txt.count x ⟨#[c]⟩ = Int.ofNat (countOf c x.cps.toList) := by
  obtain ⟨f, hG, hn⟩ := occ_tight x ⟨#[c]⟩ (Nat.le_refl 1)
  have := countOf_at hG hn
  rw [List.drop_zero] at this
  rw [this]; rfl

theorem joinL_eq (sep : Str) : ∀ l : List Str, (Str.join sep l).cps.toList = joinL sep.cps.toList l
  | [] => rfl
  | [x] => rfl
  | x :: y :: r => by
    show (x ++ sep ++ Str.join sep (y :: r)).cps.toList = x.cps.toList ++ sep.cps.toList ++ joinL sep.cps.toList (y :: r)
    rw [← joinL_eq sep (y :: r)]
    simp [Str.cps_append]

theorem splitOn_free {c : Nat} : ∀ {p acc r : List Nat}, c ∉ p → splitOn c acc (p ++ r) = splitOn c (p.reverse ++ acc) r
  | [], _, _, _ => rfl
  | x :: p, acc, r, h => by
    have h1 : x ≠ c := fun e => h (e ▸ List.mem_cons_self)
    have h2 : c ∉ p := fun m => h (List.mem_cons_of_mem _ m)
    have hb : Nat.beq x c = false := by
      cases q : Nat.beq x c with
      | false => rfl
      | true => exact absurd (Nat.eq_of_beq_eq_true q) h1
    rw [List.cons_append, splitOn]
    simp only [hb]
    rw [splitOn_free h2, List.reverse_cons, List.append_assoc]; rfl
theorem splitOn_join (c : Nat) : ∀ (l : List Str), l ≠ [] → (∀ p ∈ l, c ∉ p.cps.toList) → splitOn c [] (joinL [c] l) = l.map (·.cps.toList)
  | [], h, _ => absurd rfl h
  | [x], _, hf => by
    have := splitOn_free (acc := []) (r := []) (hf x List.mem_cons_self)
    rw [List.append_nil, List.append_nil] at this
    show splitOn c [] x.cps.toList = _
    rw [this]; simp [splitOn]
  | x :: y :: r, _, hf => by
    show splitOn c [] (x.cps.toList ++ [c] ++ joinL [c] (y :: r)) = _
    rw [List.append_assoc, splitOn_free (hf x List.mem_cons_self), List.append_nil]
    show splitOn c _ (c :: joinL [c] (y :: r)) = _
    rw [splitOn]
    simp only [show Nat.beq c c = true from Nat.beq_refl c, List.reverse_reverse, List.map_cons]
    rw [splitOn_join c (y :: r) (by simp) fun p hp => hf p (List.mem_cons_of_mem _ hp)]
    rfl
theorem split_ne (x y : Str) : Txt.split x y ≠ [] := by
  unfold Txt.split
  split
  · simp
  · split
    · simp
    · unfold partsBetween
      simp only [ne_eq, List.map_eq_nil_iff, List.zip_eq_nil_iff]
      simp
theorem split_eq (x : Str) (c : Nat) : Txt.split x ⟨#[c]⟩ = (splitOn c [] x.cps.toList).map fun l => ⟨⟨l⟩⟩ := by
  have h := splitOn_join c (Txt.split x ⟨#[c]⟩) (split_ne _ _) (split_free x c)
  have e : joinL [c] (Txt.split x ⟨#[c]⟩) = x.cps.toList := by
    rw [← joinL_eq ⟨#[c]⟩, join_split]
  rw [e] at h
  rw [h, List.map_map]
  conv => lhs; rw [← List.map_id (Txt.split x ⟨#[c]⟩)]
  exact List.map_congr_left fun a _ => rfl
theorem split_size (x : Str) (c : Nat) (h : x.cps.toList.length ≤ lim) : (partsBetween x (occurrences x ⟨#[c]⟩ 0 x.length (x.length + 1)) 1).length ≤ sizeLine := by
  have h1 := occ_length_le x ⟨#[c]⟩ 0 x.length (x.length + 1)
  have h2 : lim + 2 ≤ sizeLine := by rw [sizeLine_eq]; decide
  have h3 : x.length ≤ lim := h
  unfold partsBetween
  simp only [List.length_map, List.length_zip, List.length_cons, List.length_append, List.length_nil]
  omega

theorem cutOk_nn {n a b : Nat} (h : cutOk n (some a) (some b) = true) : a ≤ b ∧ b ≤ n := by
  unfold cutOk at h
  rw [Bool.and_eq_true] at h
  exact ⟨Nat.le_of_ble_eq_true h.1, Nat.le_of_ble_eq_true h.2⟩
end Mine

namespace Mine
open PySem PySem.Calls PyProof.Rows Builtin Builtin.Str

theorem small_lim : lim < 2 ^ 62 := by decide
section
variable {B : Base} {ρ : List Addr} {H : Hp} {s : Shared}
theorem VR.last (ρ : List Addr) (d : Addr) {n : Nat} (h : ρ.length = n) : VR (ρ ++ [d]) (.obj n) (.ref d) := ⟨d, by subst h; simp, rfl⟩
theorem post_list (S : St B ρ H s) {xs : List AV} {vs : List Value} (hv : VRs ρ xs vs) (hz : xs.length ≤ lim) {h' : Heap} {d : Addr} (k : ∀ b o, s.heap.get? b = some o → h'.get? b = some o) (hd : s.heap.objs.size ≤ d)
    (hl : h'.PlainList d vs.toArray) (t : Nat) : Post B ρ s (H ++ [.list xs]) (fun ρ' z => VR ρ' (.obj H.length) z) (.ref d) { s with heap := h', toks := t } :=
  ⟨⟨h', t, rfl⟩, ρ ++ [d], List.prefix_append .., VR.last ρ d S.len, S.add (o := .list xs) k hd (fun _ => S.fresh hd) ⟨hz, vs, hl, hv.mono (List.prefix_append ..)⟩ t⟩
theorem post_listN (S : St B ρ H s) {xs : List AV} {vs : List Value} (hv : VRs ρ xs vs) (hz : xs.length ≤ lim) {h' : Heap} {d : Addr} (k : ∀ b o, s.heap.get? b = some o → h'.get? b = some o) (hd : s.heap.get? d = none)
    (hl : h'.PlainList d vs.toArray) (t : Nat) : Post B ρ s (H ++ [.list xs]) (fun ρ' z => VR ρ' (.obj H.length) z) (.ref d) { s with heap := h', toks := t } :=
  ⟨⟨h', t, rfl⟩, ρ ++ [d], List.prefix_append .., VR.last ρ d S.len, S.addN (o := .list xs) k hd (fun _ => S.freshN hd) ⟨hz, vs, hl, hv.mono (List.prefix_append ..)⟩ t⟩
theorem post_tup (S : St B ρ H s) {xs : List AV} {vs : List Value} (hv : VRs ρ xs vs) (hz : xs.length ≤ lim) {h' : Heap} {d : Addr} (k : ∀ b o, s.heap.get? b = some o → h'.get? b = some o) (hd : s.heap.objs.size ≤ d)
    (hl : h'.IsTuple d vs.toArray) (t : Nat) : Post B ρ s (H ++ [.tup xs]) (fun ρ' z => VR ρ' (.obj H.length) z) (.ref d) { s with heap := h', toks := t } :=
  ⟨⟨h', t, rfl⟩, ρ ++ [d], List.prefix_append .., VR.last ρ d S.len, S.add (o := .tup xs) k hd (fun h => by cases h) ⟨hz, vs, hl, hv.mono (List.prefix_append ..)⟩ t⟩
theorem post_imm (S : St B ρ H s) {v : AV} {x : Value} (hx : VR ρ v x) (t : Nat) : Post B ρ s H (fun ρ' z => VR ρ' v z) x { s with toks := t } := .here ⟨s.heap, t, rfl⟩ hx (S.toks t)
theorem post_imm' (S : St B ρ H s) {v : AV} {x : Value} (hx : VR ρ v x) {h' : Heap} (k : ∀ b o, s.heap.get? b = some o → h'.get? b = some o) (t : Nat) : Post B ρ s H (fun ρ' z => VR ρ' v z) x { s with heap := h', toks := t } :=
  .here ⟨h', t, rfl⟩ hx (S.grow k t)
theorem allocL_some {xs : List AV} {v : AV} {H' : Hp} (h : allocL H xs = some (v, H')) : xs.length ≤ lim ∧ v = .obj H.length ∧ H' = H ++ [.list xs] := by
  refine ooT h ?_
  clear h; intros; rename_i e h
  cases h; exact ⟨okL_le e, rfl, rfl⟩
theorem allocT_some {xs : List AV} {v : AV} {H' : Hp} (h : allocT H xs = some (v, H')) : xs.length ≤ lim ∧ v = .obj H.length ∧ H' = H ++ [.tup xs] := by
  refine ooT h ?_
  clear h; intros; rename_i e h
  cases h; exact ⟨okL_le e, rfl, rfl⟩
theorem mkS_some {l : List Nat} {v : AV} (h : mkS l = some v) : l.length ≤ lim ∧ v = .str ⟨⟨l⟩⟩ := by
  refine ooT h ?_
  clear h; intros; rename_i e h
  cases h; exact ⟨okL_le e, rfl⟩
theorem withH_some {o : Option AV} {v : AV} {H' : Hp} (h : withH H o = some (v, H')) : o = some v ∧ H' = H := by
  cases o with
  | none => cases h
  | some a => cases h; exact ⟨rfl, rfl⟩
theorem push_keeps (h : Heap) (ob : Obj) : ∀ b o, h.get? b = some o → (h.push ob).get? b = some o := fun _ _ e => Heap.get?_push_of_some ob e
theorem push_plain (h : Heap) (its : Array Value) : (h.push { cls := .type "list", data := .seq its }).PlainList h.objs.size its := ⟨_, Heap.get?_push_size _ rfl⟩

variable {prog : Program} {w : World} {A : Around} {E : Value → Shared → Prop}

theorem repl_length {α : Type} (xs : List α) : ∀ n, (repl xs n).length = n * xs.length
  | 0 => by simp [repl]
  | n + 1 => by rw [repl, List.length_append, repl_length xs n, Nat.succ_mul]; omega
theorem VRs.repl {xs : List AV} {vs : List Value} (h : VRs ρ xs vs) : ∀ n, VRs ρ (repl xs n) (repl vs n)
  | 0 => trivial
  | n + 1 => h.append (h.repl n)
theorem foldl_repl (vs : List Value) : ∀ (n : Nat) (acc : Array Value), List.foldl (fun x1 x2 => x1 ++ x2) acc (List.replicate n vs.toArray) = acc ++ (repl vs n).toArray
  | 0, acc => by simp [repl]
  | n + 1, acc => by
    rw [List.replicate_succ, List.foldl_cons, foldl_repl vs n]
    simp [repl, Array.append_assoc]
theorem repl_nil {α : Type} : ∀ n, repl ([] : List α) n = []
  | 0 => rfl
  | n + 1 => by simp [repl, repl_nil n]

theorem mul_listR {l : Addr} {vs : List Value} {k n : Nat} {i : Int} {u : Tok} {Q : Value → Shared → Prop} (hi : i = ((n : Nat) : Int))
    (hl : s.heap.get? l = some { cls := .type "list", dict := none, data := .seq vs.toArray k, slots := #[] })
    (hn : n ≤ lim) (hz : vs.length ≤ lim) (hsz : vs.length * n ≤ lim)
    (h : Q (.ref s.heap.objs.size) { s with heap := s.heap.push { cls := .type "list", data := .seq (repl vs n).toArray } }) :
    wpAny (model prog w) A (binaryOp .Mult (.ref l) (.int i u)) Q E s := by
  have hs := sizeLine_eq
  have hl' : lim = 1048576 := rfl
  have e : List.foldl (fun x1 x2 => x1 ++ x2) #[] (List.replicate (if vs.toArray.isEmpty = true then 0 else i.toNat) vs.toArray) = (repl vs n).toArray := by
    rw [foldl_repl, hi, Int.toNat_natCast]
    cases vs with
    | nil => simp [repl_nil]
    | cons v vs => simp
  refine wpAny_binaryOp_repeat_ref (T := "list") (U := "int") (by decide) ⟨_, hl, rfl⟩ (fun s' => typeIs_int s' _ u) noFill_list_mul F.fills_int_mul F.slot_int_rmul repeat_list F.slot_int_index.lookup
    (call_meets F.slot_int_rmul (typeIs_int s _ u) F.entry_int_rmul (F.args_int_rmul_2 _ _) (int___rmul___int_list _ u l vs.toArray k)
      ⟨hl, rfl, ⟨_, hl, rfl⟩, call_meets F.slot_list_mul ⟨_, hl, rfl⟩ F.entry_list_mul (F.args_list_mul_2 _ _)
        (AutoListH.list___mul___list_int_3 l vs.toArray k i u (by rw [hi]; simp [Builtin.List.listFitsIndex]; omega) (by rw [hi, Int.toNat_natCast]; simp; omega) (by rw [hi, Int.toNat_natCast]; simp [Builtin.List.listTooLong]; omega))
        ⟨hl, ?_⟩⟩)
  rw [e]; exact h

theorem bits64 {n : Nat} (h : n ≤ 1048576) : -(2 ^ 64) < Int.ofNat n ∧ Int.ofNat n < 2 ^ 64 := ⟨by show -(2 ^ 64) < ((n : Nat) : Int); omega, by show ((n : Nat) : Int) < 2 ^ 64; omega⟩
theorem ofNat_ne {n : Nat} (h : 1 ≤ n) : Int.ofNat n ≠ 0 := by show ((n : Nat) : Int) ≠ 0; omega

theorem binop_sound (S : St B ρ H s) {op : Operator} {a b v : AV} {H' : Hp} {x y : Value} (h : binop H op a b = some (v, H')) (hx : VR ρ a x) (hy : VR ρ b y) :
    wpAny (model prog w) A (binaryOp op x y) (Post B ρ s H' fun ρ' z => VR ρ' v z) E s := by
  have hsz : lim + lim ≤ sizeLine := by rw [sizeLine_eq]; decide
  cases op with
  | Add => cases a with
    | int i =>
      refine ooInt (show addI H i b = _ from h) fun j hj h => ?_
      rw [int?_some hj] at hy
      obtain ⟨t, rfl⟩ := hx; obtain ⟨u, rfl⟩ := hy
      cases h
      exact add_int (post_imm (v := .int _) S ⟨_, rfl⟩ _)
    | str p =>
      refine ooStr (show addS H p b = _ from h) fun q hq h => ?_
      rw [str?_some hq] at hy
      obtain ⟨z, t, rfl⟩ := hx; obtain ⟨z', u, rfl⟩ := hy
      refine hide fun GG hGG => ?_
      obtain ⟨h1, rfl⟩ := withH_some h
      obtain ⟨hl, rfl⟩ := mkS_some h1
      refine hGG ?_
      clear hGG GG
      refine add_str (hsz := by show p.cps.size + q.cps.size ≤ _; omega) fun t' tk => post_imm (v := .str _) S ⟨by simpa using hl, t', ?_⟩ tk
      congr 1
      exact Str.ext' (by show (p.cps ++ q.cps) = _; simp)
    | obj k =>
      refine ooN (show addO H k b = _ from h) fun l hl h => ooLA h fun xs e1 h => ooLA h fun ys e2 h => ?_
      rw [obj?_some hl] at hy
      refine hide fun GG hGG => ?_
      obtain ⟨hz, rfl, rfl⟩ := allocL_some h
      obtain ⟨z1, c, us, hc, ⟨n, ho⟩, hv⟩ := rdList_at S e1
      obtain ⟨z2, d, vs, hd, ⟨m, ho2⟩, hw⟩ := rdList_at S e2
      obtain ⟨c', hc', rfl⟩ := hx
      obtain ⟨d', hd', rfl⟩ := hy
      refine hGG ?_
      clear hGG GG
      rw [hc] at hc'; cases hc'
      rw [hd] at hd'; cases hd'
      have l1 := hv.length
      have l2 := hw.length
      refine concat_meets ⟨_, ho, rfl⟩ ⟨_, ho2, rfl⟩ noFill_list_add seq_list_add PySem.F.slot_list_add PySem.F.entry_list_add (PySem.F.args_list_add_2 _ _) (list_addW _ _ us.toArray vs.toArray n m none none #[] #[] (by simp; omega)) ⟨ho, ho2, ?_⟩
      exact post_list S (hv.append hw) hz (push_keeps _ _) (Nat.le_refl _) (by have := push_plain s.heap (us.toArray ++ vs.toArray); simpa using this) s.toks
    | _ => exact ooNo h
  | Sub =>
    refine ooInt (show subA H a b = _ from h) fun i hi h => ooInt h fun j hj h => ?_
    rw [int?_some hi] at hx; rw [int?_some hj] at hy
    obtain ⟨t, rfl⟩ := hx; obtain ⟨u, rfl⟩ := hy
    cases h
    exact sub_int' (post_imm (v := .int _) S ⟨_, rfl⟩ _)
  | Mult => cases a with
    | int i =>
      refine ooN (show mulI H i b = _ from h) fun n hi h => ooT h fun e h => ooInt h fun j hj h => ?_
      rw [int?_some hj] at hy
      rw [natI?_some hi] at hx
      obtain ⟨t, rfl⟩ := hx; obtain ⟨u, rfl⟩ := hy
      cases h
      have hn := Nat.le_of_ble_eq_true e
      exact mul_int (hm := .of_left (intBits_le_64 (bits64 hn).1 (bits64 hn).2)) (post_imm (v := .int _) S ⟨_, rfl⟩ _)
    | obj k =>
      refine ooLA (show mulO H k b = _ from h) fun xs e1 h => ooN h fun n hb h => ooT h fun hn h => ?_
      replace hn : n ≤ lim := Nat.le_of_ble_eq_true hn
      rw [nat?_some hb] at hy
      refine hide fun GG hGG => ?_
      obtain ⟨hz, rfl, rfl⟩ := allocL_some h
      obtain ⟨z1, c, us, hc, ⟨m, ho⟩, hv⟩ := rdList_at S e1
      obtain ⟨c', hc', rfl⟩ := hx
      refine hGG ?_
      clear hGG GG
      rw [hc] at hc'; cases hc'
      obtain ⟨u, rfl⟩ := hy
      have l1 := hv.length
      have hlen : (repl xs n).length = n * xs.length := repl_length xs n
      rw [hlen] at hz
      refine mul_listR rfl ho hn (by rw [l1]; exact z1) (by rw [hv.length, Nat.mul_comm]; exact hz) ?_
      exact post_list S (hv.repl n) (by rw [hlen]; exact hz) (push_keeps _ _) (Nat.le_refl _) (push_plain s.heap _) s.toks
    | _ => exact ooNo h
  | Mod =>
    refine ooInt (show modA H a b = _ from h) fun i hi h => ooN h fun n hn h => ooT h fun e h => ?_
    rw [int?_some hi] at hx; rw [nat?_some hn] at hy
    obtain ⟨t, rfl⟩ := hx; obtain ⟨u, rfl⟩ := hy
    cases h
    have e := Nat.le_of_ble_eq_true e
    exact mod_int' (ofNat_ne e) (post_imm (v := .int _) S ⟨_, rfl⟩ _)
  | RShift =>
    refine ooN (show shrA H a b = _ from h) fun m hm h => ooN h fun n hn h => ?_
    rw [nat?_some hm] at hx; rw [nat?_some hn] at hy
    obtain ⟨t, rfl⟩ := hx; obtain ⟨u, rfl⟩ := hy
    cases h
    refine rshift_int (by exact Int.natCast_nonneg n) (post_imm (v := .int (.ofNat (m >>> n))) S ⟨s.toks, ?_⟩ _)
    congr 1
    show Int.fdiv (Int.ofNat m) (2 ^ n) = _
    rw [Nat.shiftRight_eq_div_pow]
    rw [Int.fdiv_eq_ediv_of_nonneg _ (by exact Int.le_of_lt (Int.pow_pos (by decide)))]
    simp
  | BitAnd =>
    refine ooN (show andA H a b = _ from h) fun m hm h => ooN h fun n hn h => ?_
    rw [nat?_some hm] at hx; rw [nat?_some hn] at hy
    obtain ⟨t, rfl⟩ := hx; obtain ⟨u, rfl⟩ := hy
    cases h
    exact and_int (post_imm (v := .int (.ofNat (m &&& n))) S ⟨s.toks, rfl⟩ _)
  | _ => exact ooNo h
end
end Mine

namespace Mine
open PySem PySem.Calls PyProof.Rows Builtin Builtin.Str PySem.StrLaws

section
variable {B : Base} {ρ : List Addr} {H : Hp} {s : Shared}
variable {prog : Program} {w : World} {A : Around} {E : Value → Shared → Prop}

theorem place_some {n : Nat} {i : Int} {j : Nat} (h : place n i = some j) : j < n ∧ (i = (j : Int) ∨ i = (j : Int) - (n : Int)) := by
  cases i with
  | ofNat k =>
    have h : (if k < n then some k else none) = some j := h
    by_cases hk : k < n
    · rw [if_pos hk] at h; cases h; exact ⟨hk, .inl rfl⟩
    · rw [if_neg hk] at h; cases h
  | negSucc k =>
    have h : (if k < n then some (n - 1 - k) else none) = some j := h
    by_cases hk : k < n
    · rw [if_pos hk] at h; cases h; exact ⟨by omega, .inr (by omega)⟩
    · rw [if_neg hk] at h; cases h
theorem place_seq {n : Nat} {i : Int} {j : Nat} (h : place n i = some j) : seqIndex? i n = some j := by
  obtain ⟨hj, h⟩ := place_some h
  unfold seqIndex?
  have e : (if i < 0 then i + (n : Int) else i) = (j : Int) := by
    rcases h with rfl | rfl
    · rw [if_neg (by omega)]
    · rw [if_pos (by omega)]; omega
  simp only [e]
  rw [if_pos (by simp; omega), Int.toNat_natCast]
theorem place_fits {n : Nat} {i : Int} {j : Nat} (h : place n i = some j) (hn : n ≤ lim) : -(2 ^ 63) ≤ i ∧ i < 2 ^ 63 := by
  have hl : lim < 2 ^ 62 := small_lim
  obtain ⟨hj, h⟩ := place_some h
  omega

theorem getItem_listI {l : Addr} {items : Array Value} {k : Int} {t : Tok} {j : Nat} {x : Value} {Q : Value → Shared → Prop} (hl : s.heap.IsList l items)
    (hlo : -(2 ^ 63) ≤ k) (hhi : k < 2 ^ 63) (hj : seqIndex? k items.size = some j) (hx : items[j]? = some x) (h : Q x s) : wpAny (model prog w) A (getItem (.ref l) (.int k t)) Q E s := by
  unfold seqIndex? at hj
  by_cases h0 : k < 0
  · simp only [h0, if_true] at hj
    split at hj
    · cases hj
      rename_i hc
      simp at hc
      exact wpAny_getItem_list_neg hl h0 (by omega) hlo hx h
    · cases hj
  · simp only [h0, if_false] at hj
    split at hj
    · cases hj
      exact wpAny_getItem_list hl (by omega) hhi hx h
    · cases hj

theorem index_sound (S : St B ρ H s) {o v : AV} {i : Int} {u : Tok} {x : Value} {Q : Value → Shared → Prop} (h : index H o i = some v) (hx : VR ρ o x)
    (hQ : ∀ z t, VR ρ v z → Q z { s with toks := t }) : wpAny (model prog w) A (getItem x (.int i u)) Q E s := by
  cases o with
  | str p =>
    obtain ⟨z, t, rfl⟩ := hx
    refine ooN (show idxS p i = some v from h) fun j hj h => ooN h fun c hc h => ?_
    cases h
    have hf := place_fits hj (n := p.cps.toList.length) z
    refine getItem_str (c := c) (by simp; omega) ?_ (hQ _ _ ⟨by show 1 ≤ lim; decide, _, rfl⟩)
    rw [show p.length = p.cps.toList.length from rfl, place_seq hj, Option.bind_some]
    simpa using hc
  | obj k =>
    obtain ⟨a', ha', rfl⟩ := hx
    refine ooLA (show idxO H k i = some v from h) fun xs hxs h => ooN h fun j hj h => ?_
    have key : ∀ (vs : List Value), VRs ρ xs vs → ∃ z, vs.toArray[j]? = some z ∧ VR ρ v z ∧ seqIndex? i vs.toArray.size = some j := by
      intro vs hv
      obtain ⟨z, ez, rz⟩ := hv.get h
      refine ⟨z, by simpa using ez, rz, ?_⟩
      rw [show vs.toArray.size = xs.length by simp [hv.length]]
      exact place_seq hj
    have lst : ∀ {d : Addr} {vs : List Value}, d = a' → xs.length ≤ lim → s.heap.IsList d vs.toArray → VRs ρ xs vs → wpAny (model prog w) A (getItem (.ref a') (.int i u)) Q E s := by
      intro d vs e hz hl hv
      subst e
      obtain ⟨z, ez, rz, es⟩ := key vs hv
      have hf := place_fits hj hz
      exact getItem_listI hl hf.1 hf.2 es ez (hQ z s.toks rz)
    refine ooSeq (show rdSeq H k = some xs from hxs) (fun ys e q => ?_) (fun ys e q => ?_) (fun ys e q => ?_) <;> cases q <;> obtain ⟨d, hd, hz, vs, hl, hv⟩ := S.addr e
    · exact lst (Option.some.inj (hd.symm.trans ha')) hz hl.isList hv
    · exact lst (Option.some.inj (hd.symm.trans ha')) hz hl.isList hv
    · rw [hd] at ha'; cases ha'
      obtain ⟨z, ez, rz, es⟩ := key vs hv
      have hf := place_fits hj hz
      exact getItem_tuple hl hf.1 hf.2 es ez (hQ z s.toks rz)
  | _ => exact ooNo h
end
end Mine

namespace Mine
open PySem PySem.Calls PyProof.Rows Builtin Builtin.Str PySem.StrLaws

section
variable {B : Base} {ρ : List Addr} {H : Hp} {s : Shared}
variable {prog : Program} {w : World} {A : Around} {E : Value → Shared → Prop}
noncomputable def PartIs : Option Nat → Value → Prop
  | none, v => v = .none
  | some n, v => ∃ t, v = .int ((n : Nat) : Int) t
theorem PartIs.part {o : Option Nat} {v : Value} (h : PartIs o v) : IsPart v (o.map fun n => ((n : Nat) : Int)) := by
  cases o with
  | none => cases h; exact .none
  | some n => obtain ⟨t, rfl⟩ := h; exact .int _ _
theorem txt_slice (x : Str) {lo hi : Option Nat} (h : cutOk x.cps.toList.length lo hi = true) :
    Txt.slice x (lo.map fun n => ((n : Nat) : Int)) (hi.map fun n => ((n : Nat) : Int)) = ⟨⟨cut x.cps.toList lo hi⟩⟩ := by
  have hl : x.length = x.cps.toList.length := rfl
  show sliceText x _ _ = _
  cases lo with
  | none =>
    cases hi with
    | none =>
      have e : sliceText x none none = sliceText x (some ((0 : Nat) : Int)) (some ((x.length : Nat) : Int)) := by
        unfold sliceText; rw [sliceIdx_none_lo, sliceIdx_none_hi]; rfl
      show sliceText x none none = _
      rw [e, sliceText_nat x (Nat.zero_le _) (Nat.le_refl _), List.drop_zero, Nat.sub_zero, hl, List.take_length]
      rfl
    | some b =>
      have hb : b ≤ x.cps.toList.length := Nat.le_of_ble_eq_true h
      show sliceText x none (some (b : Int)) = _
      rw [sliceText_to ⟨by omega, by omega⟩]
      simp [cut]
  | some a =>
    cases hi with
    | none =>
      have hb : a ≤ x.cps.toList.length := Nat.le_of_ble_eq_true h
      show sliceText x (some (a : Int)) none = _
      rw [sliceText_from ⟨by omega, by omega⟩]
      congr 2
      rw [Int.toNat_natCast]
      show _ = x.cps.toList.drop a
      rw [List.take_of_length_le]
      rw [List.length_drop]; omega
    | some b =>
      have hb := cutOk_nn h
      show sliceText x (some (a : Int)) (some (b : Int)) = _
      rw [sliceText_nat x hb.1 (by rw [hl]; exact hb.2)]
      congr 2
      show _ = (x.cps.toList.take b).drop a
      rw [List.drop_take]
theorem pick_cut (vs : List Value) {lo hi : Option Nat} (h : cutOkL vs.length lo hi = true) :
    slicePick vs.toArray (lo.map fun n => ((n : Nat) : Int)) (hi.map fun n => ((n : Nat) : Int)) none = (cut vs lo hi).toArray := by
  cases lo with
  | none =>
    cases hi with
    | none => exact slicePick_all _
    | some b => exact slicePick_upto' _ b
  | some a =>
    cases hi with
    | none =>
      have hb : a ≤ vs.length := Nat.le_of_ble_eq_true h
      exact slicePick_from _ a (by simpa using hb)
    | some b =>
      have hb := cutOk_nn h
      have e := slicePick_run vs.toArray a b (by simpa using hb.2) hb.1
      refine e.trans ?_
      show _ = ((vs.take b).drop a).toArray
      rw [List.drop_take]
theorem VRs.cut {xs : List AV} {vs : List Value} (h : VRs ρ xs vs) (lo hi : Option Nat) : VRs ρ (cut xs lo hi) (cut vs lo hi) := by
  cases lo <;> cases hi <;> simp only [Mine.cut]
  · exact h
  · exact h.take _
  · exact h.drop _
  · exact (h.take _).drop _

theorem slice_item (S : St B ρ H s) {o v : AV} {lo hi : Option Nat} {H' : Hp} {x vl vu : Value} (h : slice H o lo hi = some (v, H')) (hx : VR ρ o x) (hl : PartIs lo vl) (hu : PartIs hi vu) :
    ItemOn (model prog w) A E x (.ref s.heap.objs.size) (Post B ρ s H' fun ρ' z => VR ρ' v z) { s with heap := s.heap.push { cls := .type "slice", data := .fields #[vl, vu, .none] } } := by
  have hsz := lim_le
  cases o with
  | str p =>
    refine hide fun GG hGG => ?_
    obtain ⟨z, t, rfl⟩ := hx
    refine hGG ?_
    clear hGG GG
    refine ooT (show slcS H p lo hi = _ from h) fun hc h => ?_
    refine hide fun GG hGG => ?_
    obtain ⟨h1, rfl⟩ := withH_some h
    obtain ⟨h2, rfl⟩ := mkS_some h1
    refine hGG ?_
    clear hGG GG
    have e := txt_slice p hc
    have hk : KeptH (fun h : Heap => ∀ b o, s.heap.get? b = some o → h.get? b = some o) := fun h ob k b o e => Heap.get?_push_of_some ob (k b o e)
    have fin : ∀ (h' : Heap) t' k, (∀ b o, s.heap.get? b = some o → h'.get? b = some o) → Post B ρ s H' (fun ρ' z => VR ρ' (.str ⟨⟨cut p.cps.toList lo hi⟩⟩) z) (.str (Txt.slice p (lo.map fun n => ((n : Nat) : Int)) (hi.map fun n => ((n : Nat) : Int))) t') { s with heap := h', toks := k } :=
      fun h' t' k kk => post_imm' (v := .str _) S ⟨by simpa using h2, t', by rw [e]⟩ kk k
    have hz : p.length ≤ sizeLine := Nat.le_trans z hsz
    cases lo with
    | none =>
      cases hl
      cases hi with
      | none => cases hu; exact SBH.sliceItem_nn (hsz := hz) hk (fun _ _ e => e) fin
      | some b => obtain ⟨u, rfl⟩ := hu; exact SBH.sliceItem_ns (hsz := hz) hk (fun _ _ e => e) fin
    | some a =>
      obtain ⟨u, rfl⟩ := hl
      cases hi with
      | none => cases hu; exact SBH.sliceItem_sn (hsz := hz) hk (fun _ _ e => e) fin
      | some b => obtain ⟨u', rfl⟩ := hu; exact SBH.sliceItem_ss (hsz := hz) hk (fun _ _ e => e) fin
  | obj k =>
    refine ooLA (show slcO H k lo hi = _ from h) fun xs e h => ooT h fun hc h => ?_
    refine hide fun GG hGG => ?_
    obtain ⟨hz, rfl, rfl⟩ := allocL_some h
    obtain ⟨z, d, vs, hd, hL, hv⟩ := rdList_at S e
    obtain ⟨d', hd', rfl⟩ := hx
    refine hGG ?_
    clear hGG GG
    rw [hd] at hd'; cases hd'
    have hvl := hv.length
    refine ⟨"list", _, list_getitem_lookup, (hL.isList.push _).typeIs, wpAny_getItem_list_slice (hL.isList.push _) (Heap.IsSliceOf.new ..) hl.part hu.part .none (by simp) ?_ (by simp; omega)⟩
    rw [pick_cut vs (by rw [hvl]; exact hc)]
    exact post_list S (hv.cut lo hi) hz (fun b o e => push_keeps _ _ b o (push_keeps _ _ b o e)) (by rw [Heap.size_push]; omega) (by have := push_plain (s.heap.push { cls := .type "slice", data := .fields #[vl, vu, .none] }) (Mine.cut vs lo hi).toArray; exact this) s.toks
  | _ => exact ooNo h

theorem fm_congr {α β : Type} {f g : α → Option β} : ∀ {l : List α}, (∀ a, a ∈ l → f a = g a) → l.filterMap f = l.filterMap g
  | [], _ => rfl
  | a :: l, h => by
    rw [List.filterMap_cons, List.filterMap_cons, h a List.mem_cons_self, fm_congr fun b hb => h b (List.mem_cons_of_mem _ hb)]
theorem rev_pick (vs : List Value) : slicePick vs.toArray none none (some (-1)) = vs.reverse.toArray := by
  unfold slicePick sliceBounds sliceRange
  have e : ¬ ((-1 : Int) > 0) := by decide
  simp only [Option.getD_some, e, if_false]
  congr 1
  by_cases h : vs = []
  · subst h; simp
  · have hp : 0 < vs.length := List.length_pos_iff.mpr h
    have h1 : ((vs.toArray.size : Int) - 1 > -1) := by simp; omega
    rw [if_pos h1]
    have h2 : (((vs.toArray.size : Int) - 1 - -1 - -1 - 1) / (- -1)).toNat = vs.length := by
      simp
    rw [h2]
    have key : (List.range vs.length).filterMap (fun k => vs.reverse[k]?) = vs.reverse := by
      have q := slicePick_all vs.reverse.toArray
      unfold slicePick sliceBounds at q
      simp only [Option.getD_none, show (1 : Int) > 0 by decide, if_true] at q
      have q2 : sliceRange 0 (vs.reverse.toArray.size : Int) 1 = (List.range (vs.length - 0)).map (0 + ·) := by
        have := sliceRange_one 0 vs.length
        simpa using this
      rw [q2, List.filterMap_map] at q
      have q3 := congrArg Array.toList q
      simp only [Nat.sub_zero] at q3
      refine Eq.trans ?_ q3
      show _ = List.filterMap _ _
      apply fm_congr
      intro k _
      simp
    rw [List.filterMap_map]
    refine Eq.trans ?_ key
    apply fm_congr
    intro k hk
    have hk' : k < vs.length := by simpa using hk
    show vs.toArray[((vs.toArray.size : Int) - 1 + -1 * (k : Int)).toNat]? = _
    rw [List.getElem?_reverse hk']
    have : ((vs.toArray.size : Int) - 1 + -1 * (k : Int)).toNat = vs.length - 1 - k := by simp; omega
    rw [this]; simp
end
end Mine

namespace Mine
open PySem PySem.Calls PyProof.Rows Builtin Builtin.Str PySem.StrLaws

noncomputable def nameOf : Meth → Str
  | .append => "append" | .pop => "pop" | .startswith => "startswith" | .endswith => "endswith" | .split => "split" | .join => "join" | .count => "count"
noncomputable def idOf : Meth → String
  | .append => "list.append" | .pop => "list.pop" | .startswith => "str.startswith" | .endswith => "str.endswith" | .split => "str.split" | .join => "str.join" | .count => "str.count"
theorem meth_name {x : Str} {m : Meth} (h : lkp x methTab = some m) : x = nameOf m := by
  unfold methTab at h
  simp only [lkp] at h
  repeat (first | (split at h; (· rename_i e; cases h; exact seq_iff.mp e)) | cases h)

section
variable {B : Base} {ρ : List Addr} {H : Hp} {s : Shared}
variable {prog : Program} {w : World} {A : Around} {E : Value → Shared → Prop}
theorem getMeth_sound (S : St B ρ H s) {name : Str} {m : Meth} {o : AV} {x : Value} {M : Model} {pl : Sem Bool} {Q : Value × List Value → Shared → Prop} (hn : lkp name methTab = some m) (hr : recv H m o = true) (hx : VR ρ o x)
    (hQ : Q (.builtin (idOf m), [x]) s) : wpAny M A (getMethod x name pl) Q E s := by
  rw [meth_name hn]
  cases o with
  | str p =>
    refine hide fun GG hGG => ?_
    obtain ⟨_, t, rfl⟩ := hx
    refine hGG ?_
    clear hGG GG
    cases m
    case startswith => exact GM.startswith hQ
    case endswith => exact GM.endswith hQ
    case split => exact GM.split hQ
    case join => exact GM.join hQ
    case count => exact GM.count hQ
    all_goals cases hr
  | obj k =>
    refine hide fun GG hGG => ?_
    obtain ⟨a, ha, rfl⟩ := hx
    refine hGG ?_
    clear hGG GG
    have key : (rdList H k).isSome = true → ∃ o, s.heap.get? a = some o ∧ o.cls = .type "list" ∧ o.dict = none := by
      intro h
      refine hide fun GG hGG => ?_
      obtain ⟨xs, e⟩ := Option.isSome_iff_exists.mp h
      obtain ⟨_, d, vs, hd, ⟨n, ho⟩, _⟩ := rdList_at S e
      refine hGG ?_
      clear hGG GG
      rw [hd] at ha; cases ha
      exact ⟨_, ho, rfl, rfl⟩
    cases m
    case append => obtain ⟨o, h1, h2, h3⟩ := key hr; exact Calls.getMethod_list_append h1 h2 h3 hQ
    case pop => obtain ⟨o, h1, h2, h3⟩ := key hr; exact getMethod_builtin (T := "list") ⟨_, h1, h2⟩ PySem.F.plainAttrs_list PySem.F.slot_list_pop PySem.F.type_list_pop (fun b e => by cases e; exact ⟨_, h1, h3⟩) hQ
    all_goals cases hr
  | _ => cases hr

theorem strs_of : ∀ {xs : List AV} {l : List Str} {vs : List Value}, strsOf xs = some l → VRs ρ xs vs → ∃ l' : List (Str × Tok), vs = strValues l' ∧ l'.map (·.1) = l
  | [], _, [], h, _ => by cases h; exact ⟨[], rfl, rfl⟩
  | [], _, _ :: _, _, h => h.elim
  | _ :: _, _, [], _, h => h.elim
  | x :: xs, l, v :: vs, h, ⟨h1, h2⟩ => by
    refine ooStr h fun p hp h => ooLS h fun l0 e0 h => ?_
    rw [str?_some hp] at h1
    cases h
    refine hide fun GG hGG => ?_
    obtain ⟨l', rfl, rfl⟩ := strs_of e0 h2
    obtain ⟨_, t, rfl⟩ := h1
    refine hGG ?_
    clear hGG GG
    exact ⟨(p, t) :: l', rfl, rfl⟩
theorem join_sum (sep : Str) : ∀ (l : List Str) (acc : Nat), l.foldl (fun a t => a + t.length + sep.length) acc ≤ acc + (joinL sep.cps.toList l).length + sep.length
  | [], acc => by simp [joinL]
  | [x], acc => by
    have : x.length = x.cps.toList.length := rfl
    show acc + x.length + sep.length ≤ acc + x.cps.toList.length + sep.length
    omega
  | x :: y :: r, acc => by
    have := join_sum sep (y :: r) (acc + x.length + sep.length)
    rw [List.foldl_cons]
    refine Nat.le_trans this ?_
    have e : joinL sep.cps.toList (x :: y :: r) = x.cps.toList ++ sep.cps.toList ++ joinL sep.cps.toList (y :: r) := rfl
    rw [e, List.length_append, List.length_append]
    have h1 : x.length = x.cps.toList.length := rfl
    have h2 : sep.length = sep.cps.toList.length := rfl
    omega
theorem join_ok {sep : Str} {l : List Str} (h1 : sep.cps.toList.length ≤ lim) (h2 : (joinL sep.cps.toList l).length ≤ lim) : JoinOk sep l = true := by
  have hs := sizeLine_eq
  have hl : lim = 1048576 := rfl
  have := join_sum sep l 0
  have h3 : sep.length = sep.cps.toList.length := rfl
  unfold JoinOk tooLong
  rw [List.foldl_toArray]
  simp only [gt_iff_lt, Bool.not_eq_true', decide_eq_false_iff_not]
  omega

theorem split1P {x y : Str} {t u : Tok} {Q : Value → Shared → Prop} (hy : (y.length == 0) = false)
    (hq : ∀ l k, l.map (·.1) = Txt.split x y → Q (.ref s.heap.objs.size) { s with heap := s.heap.push { cls := .type "list", data := .seq (strValues l).toArray }, toks := k })
    (hsz : x.length ≤ sizeLine) (hsz2 : (partsBetween x (occurrences x y 0 x.length (x.length + 1)) y.length).length ≤ sizeLine) :
    wpAny (model prog w) A (call (.builtin "str.split") [.str x t, .str y u]) Q E s := by
  cases h1 : (decide (x.length < y.length) || decide (strKind x < strKind y))
  · cases hf : (occurrences x y 0 x.length (x.length + 1)).isEmpty
    · refine call_meets F.slot_str_split (typeIs_str _ _ _) F.entry_str_split (F.args_str_split_2 _ _) (meets_str_split_sep x y t u h1 hy hf hsz hsz2) ?_
      show wants Q E _ { s with toks := _, heap := s.heap.push { cls := .type "list", data := .seq (strsFrom s.toks (partsBetween x (occurrences x y 0 x.length (x.length + 1)) y.length)).toArray } }
      rw [strsFrom_eq]
      exact hq (numbered s.toks _) _ ((numbered_texts _ _).trans (by unfold Txt.split; rw [if_neg (ne_true_of_eq_false h1), if_neg (ne_true_of_eq_false hf)]))
    · exact call_meets F.slot_str_split (typeIs_str _ _ _) F.entry_str_split (F.args_str_split_2 _ _) (meets_str_split_not_found x y t u h1 hy hf)
        (hq [(x, t)] s.toks (by unfold Txt.split; rw [if_neg (ne_true_of_eq_false h1), if_pos hf]; rfl))
  · exact call_meets F.slot_str_split (typeIs_str _ _ _) F.entry_str_split (F.args_str_split_2 _ _) (meets_str_split_cannot_occur x y t u h1)
      (hq [(x, t)] s.toks (by unfold Txt.split; rw [if_pos h1]; rfl))
theorem vrs_strs : ∀ {l : List (Str × Tok)} {ls : List (List Nat)}, l.map (·.1) = ls.map (fun l => (⟨⟨l⟩⟩ : Str)) → (∀ p ∈ ls, p.length ≤ lim) → VRs ρ (ls.map fun l => .str ⟨⟨l⟩⟩) (strValues l)
  | [], [], _, _ => trivial
  | (x, t) :: l, p :: ls, h, hp => by
    simp only [List.map_cons, List.cons.injEq] at h
    exact ⟨⟨by simpa using hp p List.mem_cons_self, t, by rw [← h.1]⟩, vrs_strs h.2 fun q hq => hp q (List.mem_cons_of_mem _ hq)⟩
  | [], _ :: _, h, _ => by simp at h
  | _ :: _, [], h, _ => by simp at h
theorem VRs.dropLast {xs : List AV} {vs : List Value} (h : VRs ρ xs vs) : VRs ρ xs.dropLast vs.dropLast := by
  rw [List.dropLast_eq_take, List.dropLast_eq_take, h.length]
  exact h.take _
theorem splitOn_le (c : Nat) : ∀ (l acc : List Nat), ∀ p ∈ splitOn c acc l, p.length ≤ acc.length + l.length
  | [], acc, p, hp => by simp [splitOn] at hp; subst hp; simp
  | x :: r, acc, p, hp => by
    unfold splitOn at hp
    split at hp
    · rcases List.mem_cons.mp hp with rfl | hp
      · simp
      · have := splitOn_le c r [] p hp; simp at this ⊢; omega
    · have := splitOn_le c r (x :: acc) p hp; simp at this ⊢; omega

theorem one_chr {q : Str} {c : Nat} (h : one? q.cps.toList = some c) : q = ⟨#[c]⟩ := by
  have h := one?_some h
  obtain ⟨⟨l⟩⟩ := q
  simp at h
  rw [h]
theorem pop_arr (us : List Value) (h : us ≠ []) : us.toArray.eraseIdxIfInBounds (us.toArray.size - 1) = us.dropLast.toArray := by
  have hp : 0 < us.length := List.length_pos_iff.mpr h
  unfold Array.eraseIdxIfInBounds
  rw [dif_pos (by simp; omega)]
  simp

theorem callMeth_sound (S : St B ρ H s) {o v : AV} {m : Meth} {vs : List AV} {H' : Hp} {x : Value} {ws : List Value} (h : method H o m vs = some (v, H')) (hx : VR ρ o x) (hv : VRs ρ vs ws) :
    wpAny (model prog w) A (call (.builtin (idOf m)) (x :: ws)) (Post B ρ s H' fun ρ' z => VR ρ' v z) E s := by
  have hsz := lim_le
  have one : ∀ {a : AV} {ws : List Value}, VRs ρ [a] ws → ∃ w, ws = [w] ∧ VR ρ a w := by
    intro a ws h
    match ws, h with
    | [w], ⟨h, _⟩ => exact ⟨w, rfl, h⟩
  have str1 : ∀ {u : AV} {y : Str}, one? vs = some u → str? u = some y → ∃ w, ws = [w] ∧ VR ρ (.str y) w := by
    intro u y h1 h2
    rw [one?_some h1, str?_some h2] at hv
    exact one hv
  cases m with
  | startswith =>
    refine ooStr (show mStarts H o vs id = _ from h) fun p hp h => ooAV h fun u hu h => ooStr h fun q hq h => ?_
    rw [str?_some hp] at hx
    refine hide fun GG hGG => ?_
    obtain ⟨_, t, rfl⟩ := hx
    obtain ⟨w, rfl, _, u, rfl⟩ := str1 hu hq
    refine hGG ?_
    clear hGG GG
    cases h
    exact SC.startswith (by rw [startswith_eq]; exact post_imm (v := .bool _) S rfl s.toks)
  | endswith =>
    refine ooStr (show mStarts H o vs List.reverse = _ from h) fun p hp h => ooAV h fun u hu h => ooStr h fun q hq h => ?_
    rw [str?_some hp] at hx
    refine hide fun GG hGG => ?_
    obtain ⟨_, t, rfl⟩ := hx
    obtain ⟨w, rfl, _, u, rfl⟩ := str1 hu hq
    refine hGG ?_
    clear hGG GG
    cases h
    exact SC.endswith (by rw [endswith_eq]; exact post_imm (v := .bool _) S rfl s.toks)
  | split =>
    refine ooStr (show mSplit H o vs = _ from h) fun p hp h => ooAV h fun u hu h => ooStr h fun q hq h => ooN h fun c hc h => ?_
    rw [str?_some hp] at hx
    refine hide fun GG hGG => ?_
    obtain ⟨z, t, rfl⟩ := hx
    obtain ⟨w, rfl, _, u, rfl⟩ := str1 hu hq
    obtain ⟨hz, rfl, rfl⟩ := allocL_some h
    refine hGG ?_
    clear hGG GG
    have hq : q = ⟨#[c]⟩ := one_chr hc
    subst hq
    refine split1P rfl (fun l k hl => ?_) (Nat.le_trans z hsz) (split_size p c z)
    rw [split_eq] at hl
    have hl' : l.map (·.1) = (splitOn c [] p.cps.toList).map fun l => (⟨⟨l⟩⟩ : Str) := hl
    exact post_list S (vrs_strs hl' fun r hr => by have := splitOn_le c _ _ r hr; rw [List.length_nil, Nat.zero_add] at this; exact Nat.le_trans this z) hz (push_keeps _ _) (Nat.le_refl _) (push_plain s.heap _) k
  | join =>
    refine ooStr (show mJoin H o vs = _ from h) fun p hp h => ooAV h fun u hu h => ooN h fun k hk h => ooLA h fun xs e h => ooLS h fun l hl h => ?_
    rw [str?_some hp] at hx
    rw [one?_some hu, obj?_some hk] at hv
    refine hide fun GG hGG => ?_
    obtain ⟨h1, rfl⟩ := withH_some h
    obtain ⟨hz, rfl⟩ := mkS_some h1
    obtain ⟨z, t, rfl⟩ := hx
    obtain ⟨w, rfl, d, hd, rfl⟩ := one hv
    obtain ⟨_, d', us, hd', hL, hV⟩ := rdList_at S e
    refine hGG ?_
    clear hGG GG
    rw [hd] at hd'; cases hd'
    refine hide fun GG hGG => ?_
    obtain ⟨l', rfl, hl'⟩ := strs_of hl hV
    refine hGG ?_
    clear hGG GG
    refine SC.join hL.isList hl' (join_ok z hz) fun t' k => post_imm (v := .str _) S ⟨by simpa using hz, t', ?_⟩ k
    congr 1
    show Txt.join p l = _
    unfold Txt.join
    rw [glued_eq_join]
    apply Str.ext'
    apply Array.toList_inj.mp
    rw [joinL_eq]
  | count =>
    refine ooStr (show mCount H o vs = _ from h) fun p hp h => ooAV h fun u hu h => ooStr h fun q hq h => ooN h fun c hc h => ?_
    rw [str?_some hp] at hx
    refine hide fun GG hGG => ?_
    obtain ⟨z, t, rfl⟩ := hx
    obtain ⟨w, rfl, _, u, rfl⟩ := str1 hu hq
    refine hGG ?_
    clear hGG GG
    cases h
    have hq : q = ⟨#[c]⟩ := one_chr hc
    subst hq
    exact SC.count (by rw [count_eq]; exact post_imm (v := .int _) S ⟨_, rfl⟩ _)
  | append =>
    refine ooN (show mAppend H o vs = _ from h) fun k hk h => ooAV h fun a ha h => ooList h fun xs e h => ooT h fun hz h => ?_
    rw [obj?_some hk] at hx
    rw [one?_some ha] at hv
    cases h
    replace hz := okL_le hz
    refine hide fun GG hGG => ?_
    obtain ⟨d, hd, rfl⟩ := hx
    obtain ⟨w, rfl, hw⟩ := one hv
    obtain ⟨d', hd', hz0, us, hL, hV⟩ := S.addr e
    refine hGG ?_
    clear hGG GG
    rw [hd] at hd'; cases hd'
    refine wpAny_list_append_plain hL (fun h' hl hs => ?_) (Nat.le_trans (Nat.le_of_eq hV.length) (Nat.le_trans hz0 hsz))
    refine .here ⟨h', s.toks, rfl⟩ rfl (S.upd (o' := .list (xs ++ [a])) hd e rfl hs ⟨hz, us ++ [w], ?_, hV.append ⟨hw, trivial⟩⟩ s.toks)
    simpa using hl
  | pop =>
    refine ooN (show mPop H o vs = _ from h) fun k hk h => ooT h fun he h => ooList h fun xs e h => ooAV h fun y hy h => ?_
    rw [obj?_some hk] at hx
    rw [List.isEmpty_iff.mp he] at hv
    cases h
    refine hide fun GG hGG => ?_
    obtain ⟨d, hd, rfl⟩ := hx
    have hws : ws = [] := by cases ws with | nil => rfl | cons _ _ => exact hv.elim
    subst hws
    obtain ⟨d', hd', hz0, us, ⟨n, ho⟩, hV⟩ := S.addr e
    refine hGG ?_
    clear hGG GG
    rw [hd] at hd'; cases hd'
    have hvl := hV.length
    have hy' : xs[xs.length - 1]? = some v := by rw [← List.getLast?_eq_getElem?]; exact hy
    obtain ⟨z, ez, rz⟩ := hV.get hy'
    have hlast : us.toArray[us.toArray.size - 1]? = some z := by simpa [hvl] using ez
    refine call_meets F.slot_list_pop ⟨_, ho, rfl⟩ F.entry_list_pop (F.args_list_pop_1 _) (PySem.MeetsSeq.list_pop_last d us.toArray n z hlast (Nat.le_trans (Nat.le_of_eq hvl) (Nat.le_trans hz0 hsz))) ⟨ho, ?_⟩
    refine .here ⟨_, s.toks, rfl⟩ rz (S.upd (o' := .list xs.dropLast) hd e rfl (Heap.SameBut.update ..) ⟨by rw [List.length_dropLast]; exact Nat.le_trans (Nat.sub_le _ _) hz0, us.dropLast, ?_, VRs.dropLast hV⟩ s.toks)
    have hp : us ≠ [] := by
      intro q; subst q; simp at ez
    have e1 := Heap.get?_update_self (Obj.mapSeq fun xs => xs.eraseIdxIfInBounds (us.toArray.size - 1)) ho (by rfl)
    simp only [Obj.mapSeq, pop_arr us hp] at e1
    exact ⟨_, e1⟩
end
end Mine

namespace Mine
open PySem PySem.Calls PyProof.Rows Builtin Builtin.Str PySem.StrLaws

theorem entry_sub_nested : entryFor table "issubclass.nested" = some Builtin.«issubclass.nested» := F.entry_issubclass_nested
theorem kind_sub_nested : builtinKind "issubclass.nested" = none := by decide +kernel
theorem plain_sub_nested : plainId "issubclass.nested" = true := by decide +kernel
theorem args_sub_nested (a b c : Value) : argsOk "issubclass.nested" ⟨[a, b, c], []⟩ := by unfold argsOk; kernel_rfl

section
variable {prog : Program} {w : World} {A : Around} {E : Value → Shared → Prop}
theorem sub_nested_self {dep : Int} {tk : Tok} {s : Shared} {Q : Fin → Shared → Prop} (hq : Q (.done (.ret (.bool true))) s) :
    wpAny (model prog w) A (Builtin.«issubclass.nested» ⟨[.type "str", .type "str", .int dep tk], []⟩) Q E s := by
  have hm := F.isi_meta_str
  have hself := F.isi_self_str
  repeat (any_goals (first | assumption | (rw [if_pos hm]) | (rw [hself]) | wp_step))
theorem sub_self_meets {dep : Int} {tk : Tok} : Meets (Builtin.«issubclass.nested» ⟨[.type "str", .type "str", .int dep tk], []⟩) (fun _ R s => R (.ok (.ret (.bool true))) s) :=
  fun _ _ _ _ _ hs => sub_nested_self hs
theorem sub_nested_tuple {tp : Addr} {cs : List Value} (hcs : cs = [.type "str", .type "bytes"]) {dd : Option Addr} {n : Nat} {sl : Array (Option Value)} {tk : Tok} {s : Shared} {Q : Fin → Shared → Prop}
    (htp : s.heap.get? tp = some { cls := .type "tuple", dict := dd, data := .seq cs.toArray n, slots := sl })
    (hq : Q (.done (.ret (.bool true))) s) : wpAny (model prog w) A (Builtin.«issubclass.nested» ⟨[.type "str", .ref tp, .int 0 tk], []⟩) Q E s := by
  obtain ⟨h, g, d, t, os⟩ := s
  have hT2 : (⟨h, g, d, t, os⟩ : Shared).TypeIs (.ref tp) "tuple" := ⟨_, htp, rfl⟩
  have f1 := F.isi_sub_tuple
  repeat (any_goals (first | assumption | wp_step))
  refine wpAny_arrayLoop ?_
  simp only [Option.getD_some, List.toList_toArray]
  subst hcs
  rw [List.forIn_cons]
  refine wpAny_bind (wpAny_bind (call_function_meets kind_sub_nested plain_sub_nested entry_sub_nested (args_sub_nested _ _ _) sub_self_meets ?_))
  refine wpAny_bind (m := truthy (.bool true)) (wpAny_pure ?_)
  simp only [if_true]
  repeat (any_goals (first | assumption | wp_step))

theorem call_issub_tuple {tp : Addr} {s : Shared} {Q : Value → Shared → Prop} (htp : s.heap.IsTuple tp #[.type "str", .type "bytes"]) (hq : Q (.bool true) s) :
    wpAny (model prog w) A (call (.builtin "issubclass") [.type "str", .ref tp]) Q E s := by
  obtain ⟨⟨cls, dd, data, sl⟩, ho, hc, n, hd⟩ := htp
  simp only at hc hd
  subst hc hd
  exact call_issubclass (S := fun _ R s => s.heap.get? tp = some { cls := .type "tuple", dict := dd, data := .seq #[.type "str", .type "bytes"] n, slots := sl } ∧ R (.ok (.ret (.bool true))) s)
    (fun _ _ _ _ _ hs => issubclass_outer (sub_nested_tuple rfl hs.1 hs.2)) ⟨ho, hq⟩
end

section
variable {B : Base} {ρ : List Addr} {H : Hp} {s : Shared}
variable {prog : Program} {w : World} {A : Around} {E : Value → Shared → Prop}
theorem digit_str : ∀ n : Nat, n < 10 → (Str.ofString (toString ((n : Nat) : Int))) = ⟨⟨[48 + n]⟩⟩ := by decide +kernel
theorem digit_int : ∀ n : Nat, n < 10 → PySem.intText? ⟨⟨[48 + n]⟩⟩ = some ((n : Nat) : Int) := by decide +kernel
theorem VRs.one {a : AV} {ws : List Value} (h : VRs ρ [a] ws) : ∃ w, ws = [w] ∧ VR ρ a w := by
  cases ws with
  | nil => exact h.elim
  | cons w r => cases r with
    | nil => exact ⟨w, rfl, h.1⟩
    | cons _ _ => exact h.2.elim
theorem VRs.two {a b : AV} {ws : List Value} (h : VRs ρ [a, b] ws) : ∃ x y, ws = [x, y] ∧ VR ρ a x ∧ VR ρ b y := by
  cases ws with
  | nil => exact h.elim
  | cons w r =>
    obtain ⟨y, rfl, hy⟩ := VRs.one (show VRs ρ [b] r from h.2)
    exact ⟨w, y, rfl, h.1, hy⟩
theorem isTStr_eq {b : BI} (h : isTStr b = true) : b = .tStr := by cases b <;> first | rfl | cases h
theorem isTBytes_eq {b : BI} (h : isTBytes b = true) : b = .tBytes := by cases b <;> first | rfl | cases h

theorem lim63 {n : Nat} (h : n ≤ lim) : ((n : Nat) : Int) < 2 ^ 63 := by have := small_lim; omega

theorem builtin_sound (S : St B ρ H s) {b : BI} {v : AV} {vs : List AV} {H' : Hp} {ws : List Value} (h : builtin H b vs = some (v, H')) (hv : VRs ρ vs ws) :
    wpAny (model prog w) A (call b.val ws) (Post B ρ s H' fun ρ' z => VR ρ' v z) E s := by
  have hsz := lim_le
  cases b with
  | tType =>
    refine ooAV (show bType H vs = _ from h) fun u hu h => ooBI h fun t e h => ?_
    rw [one?_some hu] at hv
    obtain ⟨x, rfl, hx⟩ := hv.one
    cases h
    cases u with
    | str p =>
      obtain ⟨_, t, rfl⟩ := hx
      cases e
      exact call_type_of (typeIs_str s _ t) (by decide) (post_imm (v := .bi .tStr) S rfl s.toks)
    | int i =>
      obtain ⟨t, rfl⟩ := hx
      cases e
      exact call_type_of (typeIs_int s _ t) (by decide) (post_imm (v := .bi .tInt) S rfl s.toks)
    | _ => exact ooNo e
  | issub =>
    refine ooPr (show bIssub H vs = _ from h) fun u o hp h => ooBI h fun t ht h => ooN h fun k hk h => ooTup h fun xs e h => ooPr h fun a b hp2 h => ooBI h fun p1 h1 h => ooBI h fun p2 h2 h => ooT h fun hc h => ?_
    rw [Bool.and_eq_true, Bool.and_eq_true] at hc
    rw [pair?_some hp, bi?_some ht, obj?_some hk, isTStr_eq hc.1.1] at hv
    rw [pair?_some hp2, bi?_some h1, bi?_some h2, isTStr_eq hc.1.2, isTBytes_eq hc.2] at e
    obtain ⟨x, y, rfl, hx, d, hd, rfl⟩ := hv.two
    cases h
    cases hx
    obtain ⟨d', hd', hz, us, hT, hV⟩ := S.addr e
    rw [hd] at hd'; cases hd'
    obtain ⟨p, q, rfl, hp, hq⟩ := hV.two
    cases hp; cases hq
    exact call_issub_tuple hT (post_imm (v := .bool true) S rfl s.toks)
  | isinst =>
    refine ooPr (show bIsinst H vs = _ from h) fun u o hp h => ooStr h fun p1 h1 h => ooBI h fun q hq h => ooT h fun hc h => ?_
    rw [pair?_some hp, str?_some h1, bi?_some hq, isTBytes_eq hc] at hv
    cases h
    obtain ⟨x, y, rfl, ⟨_, t, rfl⟩, hy⟩ := hv.two
    cases hy
    exact IsiPair.str_bytes (post_imm (v := .bool false) S rfl _)
  | len =>
    refine ooAV (show bLen H vs = _ from h) fun u hu h => ?_
    rw [one?_some hu] at hv
    obtain ⟨x, rfl, hx⟩ := hv.one
    cases u with
    | str p =>
      obtain ⟨z, t, rfl⟩ := hx
      cases h
      exact len_str (Int.not_le.mpr (lim63 z)) (post_imm (v := .int _) S ⟨_, rfl⟩ _)
    | obj k =>
      refine ooLA (show lenO H k = _ from h) fun xs e h => ?_
      obtain ⟨d, hd, rfl⟩ := hx
      cases h
      obtain ⟨z, d', us, hd', hL, hV⟩ := rdList_at S e
      rw [hd] at hd'; cases hd'
      have hvl := hV.length
      refine call_len_list hL.isList (lim63 (Nat.le_trans (Nat.le_of_eq hvl) z)) (post_imm (v := .int _) S ⟨s.toks + 1, ?_⟩ _)
      simp [hvl]
    | _ => exact ooNo h
  | tStr =>
    refine ooAV (show bStr H vs = _ from h) fun u hu h => ooN h fun n hn h => ooT h fun hl h => ?_
    rw [one?_some hu, nat?_some hn] at hv
    obtain ⟨x, rfl, t, rfl⟩ := hv.one
    cases h
    have hl : n < 10 := Nat.blt_eq.mp hl
    exact P.str_of_int (by
      show n.log2 < _
      exact Nat.lt_of_le_of_lt (Nat.log2_le_self n) (Nat.lt_trans hl (by decide))) (post_imm (v := .str _) S ⟨by show 1 ≤ lim; decide, s.toks, congrArg (Value.str · _) (digit_str n hl)⟩ _)
  | tInt =>
    refine ooAV (show bInt H vs = _ from h) fun u hu h => ooStr h fun p hp h => ooN h fun c hc h => ooT h fun hn h => ?_
    rw [one?_some hu, str?_some hp, one_chr hc] at hv
    obtain ⟨x, rfl, z, t, rfl⟩ := hv.one
    cases h
    rw [Bool.and_eq_true] at hn
    have h1 : 48 ≤ c := Nat.le_of_ble_eq_true hn.1
    have h2 : c < 58 := Nat.blt_eq.mp hn.2
    have e := digit_int (c - 48) (by omega)
    rw [Nat.add_sub_cancel' h1] at e
    exact PySem.W.KIN.call_text (n := ((c - 48 : Nat) : Int)) e (by show 1 ≤ 640; decide) (post_imm (v := .int _) S ⟨s.toks, rfl⟩ _)
  | tList =>
    refine ooAV (show bList H vs = _ from h) fun u hu h => ooN h fun k hk h => ooLA h fun xs e h => ?_
    rw [one?_some hu, obj?_some hk] at hv
    obtain ⟨x, rfl, d, hd, rfl⟩ := hv.one
    obtain ⟨hz, rfl, rfl⟩ := allocL_some h
    obtain ⟨z, d', us, hd', ⟨n, ho⟩, hV⟩ := rdList_at S e
    rw [hd] at hd'; cases hd'
    have hvl := hV.length
    exact call_list_seq (hsz := Nat.le_trans (Nat.le_of_eq hvl) (Nat.le_trans z hsz)) d (.inl rfl) ho rfl rfl fun h' c' hk hD => post_list S hV hz hk (Nat.le_refl _) ⟨c', hD⟩ s.toks
  | _ => exact ooNo h
end
end Mine

namespace Mine
open PySem PySem.Calls PyProof.Rows

theorem cE_succ (m : Nat) (e : PySem.Expr) : cE (m + 1) e = cE1 (cE m) e := rfl

structure Here (h₀ : Heap) (B : Base) (ρ : List Addr) (ae : AEnv) (env : Env) (H : Hp) (s : Shared) (A : Around) (n : Nat) : Prop where
  hB : ∀ b o, h₀.get? b = some o → B b = some o
  V : EnvOk ρ ae env
  S : St B ρ H s
  R : Rm A n
theorem Here.next {h₀ : Heap} {B : Base} {ρ ρ₁ : List Addr} {ae : AEnv} {env : Env} {H H₁ : Hp} {s s₁ : Shared} {A : Around} {n : Nat} (c : Here h₀ B ρ ae env H s A n) (p : ρ <+: ρ₁) (S : St B ρ₁ H₁ s₁) : Here h₀ B ρ₁ ae env H₁ s₁ A n :=
  ⟨c.hB, c.V.mono p, S, c.R⟩
theorem Here.keep {h₀ : Heap} {B : Base} {ρ : List Addr} {ae : AEnv} {env : Env} {H : Hp} {s : Shared} {A : Around} {n : Nat} (c : Here h₀ B ρ ae env H s A n) : ∀ b o, h₀.get? b = some o → s.heap.get? b = some o := fun b o e => c.S.kept b o (c.hB b o e)

theorem lift {α : Type} {M : Model} {A : Around} {E : Value → Shared → Prop} {B : Base} {ρ ρ₁ : List Addr} {s s₁ : Shared} {H' : Hp} {R : List Addr → α → Prop} {t : Sem α} (sm : Same s s₁) (p : ρ <+: ρ₁)
    (h : wpAny M A t (Post B ρ₁ s₁ H' R) E s₁) : wpAny M A t (Post B ρ s H' R) E s₁ := wpAny_mono h (fun _ _ hp => hp.up sm p) fun _ _ e => e
theorem Post.imp {α β : Type} {B : Base} {ρ : List Addr} {s s₁ : Shared} {H' : Hp} {R : List Addr → α → Prop} {R' : List Addr → β → Prop} {a : α} {b : β} (f : ∀ ρ', R ρ' a → R' ρ' b) (h : Post B ρ s H' R a s₁) : Post B ρ s H' R' b s₁ :=
  ⟨h.1, let ⟨ρ', p, r, S⟩ := h.2; ⟨ρ', p, f ρ' r, S⟩⟩

section
variable {prog : Program} {w : World} {cx : Cx} {h₀ : Heap} {ih : Ev} {n m : Nat}
variable {B : Base} {ρ : List Addr} {H H' H₁ : Hp} {s : Shared} {ae : AEnv} {env : Env} {A : Around} {E : Value → Shared → Prop} {v : AV}

theorem goE (I : Snd prog w h₀ ih n) (c : Here h₀ B ρ ae env H s A n) {e : PySem.Expr} (h : ih.e ae H (cE m e) = some (v, H')) : wpAny (model prog w) A (eval e env) (Post B ρ s H' fun ρ' x => VR ρ' v x) E s :=
  I.e m e ae env B ρ H s A v H' h c.hB c.V c.S c.R E
theorem goT (I : Snd prog w h₀ ih n) (c : Here h₀ B ρ ae env H s A n) {e : PySem.Expr} {b : Bool} (h : ih.t ae H (cE m e) = some (b, H')) : wpAny (model prog w) A (isTrue e env (eval e env)) (Post B ρ s H' fun _ x => x = b) E s :=
  I.t m e ae env B ρ H s A b H' h c.hB c.V c.S c.R E
theorem two (I : Snd prog w h₀ ih n) (c : Here h₀ B ρ ae env H s A n) {l r : PySem.Expr} {a b : AV} {Q : Value → Value → Shared → Prop} (ha : ih.e ae H (cE m l) = some (a, H₁)) (hb : ih.e ae H₁ (cE m r) = some (b, H'))
    (k : ∀ x y s₂ ρ₂, Same s s₂ → ρ <+: ρ₂ → VR ρ₂ a x → VR ρ₂ b y → St B ρ₂ H' s₂ → Q x y s₂) : wpAny (model prog w) A (eval l env) (fun x s₁ => wpAny (model prog w) A (eval r env) (fun y s₂ => Q x y s₂) E s₁) E s :=
  nxt (goE I c ha) fun x s₁ ρ₁ sm p hx S₁ => nxt (goE I (c.next p S₁) hb) fun y s₂ ρ₂ sm₂ p₂ hy S₂ => k x y s₂ ρ₂ (sm.trans sm₂) (p.trans p₂) (hx.mono p₂) hy S₂

/-! views of the text -/
theorem name?_some {e : PySem.Expr} {x : Str} (h : name? e = some x) : ∃ p, e = .Name x p := by
  obtain ⟨⟨q, hq⟩, _, e2⟩ := Option.map_eq_some_iff.mp h
  cases e2; exact ⟨_, hq⟩
theorem tup?_some {e : PySem.Expr} {x : List PySem.Expr} (h : tup? e = some x) : ∃ k p, e = .Tuple x k p := by
  obtain ⟨⟨q, hq⟩, _, e2⟩ := Option.map_eq_some_iff.mp h
  cases e2; exact ⟨_, _, hq⟩
theorem call?_some {e g : PySem.Expr} {args : List PySem.Expr} {kw : List Keyword} (h : call? e = some (g, args, kw)) : ∃ p, e = .Call g args kw p := by
  obtain ⟨⟨q, hq⟩, _, e2⟩ := Option.map_eq_some_iff.mp h
  cases e2; exact ⟨_, hq⟩
theorem attr?_some {e o : PySem.Expr} {a : Str} {p : Pos} (h : attr? e = some (o, a, p)) : e = .Attribute o a p := by
  obtain ⟨⟨q, hq⟩, _, e2⟩ := Option.map_eq_some_iff.mp h
  cases e2; exact hq
theorem slice?_some {e : PySem.Expr} {lo hi st : Option PySem.Expr} (h : slice? e = some (lo, hi, st)) : ∃ p, e = .Slice lo hi st p := by
  obtain ⟨⟨q, hq⟩, _, e2⟩ := Option.map_eq_some_iff.mp h
  cases e2; exact ⟨_, hq⟩
theorem un?_some {e a : PySem.Expr} {op : PySem.UnaryOp} (h : un? e = some (op, a)) : ∃ p, e = .UnaryOp op a p := by
  obtain ⟨⟨q, hq⟩, _, e2⟩ := Option.map_eq_some_iff.mp h
  cases e2; exact ⟨_, hq⟩
theorem const?_some {e : PySem.Expr} {c : Const} (h : const? e = some c) : ∃ k p, e = .Constant c k p := by
  obtain ⟨⟨q, hq⟩, _, e2⟩ := Option.map_eq_some_iff.mp h
  cases e2; exact ⟨_, _, hq⟩
theorem star?_some {e e' : PySem.Expr} (h : star? e = some e') : ∃ p, e = .Starred e' p := by
  obtain ⟨⟨q, hq⟩, _, e2⟩ := Option.map_eq_some_iff.mp h
  cases e2; exact ⟨_, hq⟩
theorem nil_of {α : Type} {l : List α} (h : l.isEmpty = true) : l = [] := List.isEmpty_iff.mp h
theorem minus1_some {e : PySem.Expr} (h : minus1 e = true) : ∃ k p q, e = .UnaryOp .USub (.Constant (.int 1) k p) q := by
  unfold minus1 at h
  cases h1 : un? e with
  | none => rw [h1] at h; cases h
  | some t =>
    obtain ⟨op, a⟩ := t
    rw [h1] at h
    cases h2 : const? a with
    | none => simp only [h2] at h; cases h
    | some c =>
      simp only [h2, Bool.and_eq_true] at h
      obtain ⟨q, rfl⟩ := un?_some h1
      obtain ⟨k, p, rfl⟩ := const?_some h2
      obtain ⟨u1, u2⟩ := h
      have e1 : op = .USub := by cases op <;> first | rfl | cases u1
      have e2 : c = .int 1 := by cases c <;> first | exact congrArg Const.int (of_decide_eq_true u2) | cases u2
      subst e1 e2
      exact ⟨k, p, q, rfl⟩

/-! what the small words say of the text -/
theorem cConst_elim {P : X → Prop} {c : Const} (h : P (cConst c)) {G : Prop} (kb : P .bad → G) (k : ∀ a, P (.const a) → G) : G := by
  cases c with
  | str x =>
    have h : P (cStr x) := h
    unfold cStr at h
    cases e : okL x.cps.toList with
    | true => rw [e] at h; exact k _ h
    | false => rw [e] at h; exact kb h
  | _ => first | exact kb h | exact k _ h
theorem cCmp_elim {P : X → Prop} {f : PySem.Expr → X} {l : PySem.Expr} {ops : List CmpOp} {rs : List PySem.Expr} (h : P (cCmp f l ops rs)) {G : Prop} (kb : P .bad → G) (k : ∀ op r, ops = [op] → rs = [r] → P (.cmp (f l) op (f r)) → G) : G := by
  unfold cCmp at h
  cases h1 : one? ops with
  | none => rw [h1] at h; exact kb h
  | some op =>
    rw [h1] at h
    cases h2 : one? rs with
    | none => rw [h2] at h; exact kb h
    | some r => rw [h2] at h; exact k op r (one?_some h1) (one?_some h2) h
theorem cUn_elim {P : X → Prop} {f : PySem.Expr → X} {op : PySem.UnaryOp} {a : PySem.Expr} (h : P (cUn f op a)) {G : Prop} (kb : P .bad → G) (k1 : op = .Not → P (.not (f a)) → G) (k2 : op = .USub → P (.neg (f a)) → G) : G := by
  cases op with
  | Not => exact k1 rfl h
  | USub => exact k2 rfl h
  | _ => exact kb h
theorem cComp_elim {P : X → Prop} {f : PySem.Expr → X} {elt : PySem.Expr} {scope : Scope} {gens : List Comprehension} (h : P (cComp f elt scope gens)) {G : Prop} (kb : P .bad → G)
    (k : ∀ x p iter ifs, gens = [⟨.Name x p, iter, ifs, 0⟩] → scopeOk scope = true → P (.comp (f elt) x (f iter) (ifs.map f) scope.names) → G) : G := by
  unfold cComp at h
  cases h1 : one? gens with
  | none => rw [h1] at h; exact kb h
  | some g =>
    rw [h1] at h
    have h1 := one?_some h1
    cases h2 : (decide (g.is_async = 0) && scopeOk scope) with
    | false => simp only [h2] at h; exact kb h
    | true =>
      simp only [h2] at h
      rw [Bool.and_eq_true] at h2
      cases h3 : name? g.target with
      | none => simp only [h3] at h; exact kb h
      | some x =>
        simp only [h3] at h
        obtain ⟨p, e⟩ := name?_some h3
        obtain ⟨t, iter, ifs, n⟩ := g
        have e0 : n = 0 := of_decide_eq_true h2.1
        have e : t = .Name x p := e
        exact k x p iter ifs (by rw [h1, e, e0]) h2.2 h
theorem cSub_elim {P : X → Prop} {f : PySem.Expr → X} {o i : PySem.Expr} (h : P (cSub f o i)) {G : Prop} (kb : P .bad → G) (k1 : ∀ lo hi p, i = .Slice lo hi none p → P (.slice (f o) (lo.map f) (hi.map f)) → G)
    (k2 : ∀ k p q r, i = .Slice none none (some (.UnaryOp .USub (.Constant (.int 1) k p) q)) r → P (.rev (f o)) → G) (k3 : P (.item (f o) (f i)) → G) : G := by
  unfold cSub at h
  cases h1 : slice? i with
  | none => rw [h1] at h; exact k3 h
  | some t =>
    rw [h1] at h
    obtain ⟨lo, hi, st⟩ := t
    obtain ⟨r, e⟩ := slice?_some h1
    have h : P (cSl f o lo hi st) := h
    unfold cSl at h
    cases st with
    | none => exact k1 lo hi r e h
    | some u =>
      cases h2 : (lo.isNone && hi.isNone && minus1 u) with
      | false => simp only [h2] at h; exact kb h
      | true =>
        simp only [h2] at h
        rw [Bool.and_eq_true, Bool.and_eq_true] at h2
        obtain ⟨k, p, q, e2⟩ := minus1_some h2.2
        exact k2 k p q r (by rw [e, e2, Option.isNone_iff_eq_none.mp h2.1.1, Option.isNone_iff_eq_none.mp h2.1.2]) h
theorem cCall_elim {P : X → Prop} {f : PySem.Expr → X} {g : PySem.Expr} {args : List PySem.Expr} {kw : List Keyword} {pos : Pos} (h : P (cCall0 f g args kw pos)) {G : Prop} (kb : P .bad → G) (k1 : ∀ x p, kw = [] → g = .Name x p → P (.call x (args.map f)) → G)
    (k2 : ∀ o name apos m, kw = [] → g = .Attribute o name apos → Nat.beq apos.endLine pos.line = true → lkp name methTab = some m → notSuper o = true → P (.meth (f o) m (args.map f)) → G) : G := by
  unfold cCall0 at h
  cases h0 : kw.isEmpty with
  | false => rw [h0] at h; exact kb h
  | true =>
    rw [h0] at h
    have h : P (cCall f args pos g) := h
    unfold cCall at h
    cases h1 : name? g with
    | some x => rw [h1] at h; obtain ⟨p, e⟩ := name?_some h1; exact k1 x p (nil_of h0) e h
    | none =>
      rw [h1] at h
      cases h2 : attr? g with
      | none => rw [h2] at h; exact kb h
      | some t =>
        rw [h2] at h
        obtain ⟨o, name, apos⟩ := t
        cases h3 : (Nat.beq apos.endLine pos.line && notSuper o) with
        | false => simp only [h3] at h; exact kb h
        | true =>
          simp only [h3] at h
          rw [Bool.and_eq_true] at h3
          cases h4 : lkp name methTab with
          | none => simp only [h4] at h; exact kb h
          | some m => simp only [h4] at h; exact k2 o name apos m (nil_of h0) (attr?_some h2) h3.1 h4 h3.2 h

theorem ff {G : Prop} (h : false = true) : G := by cases h
/-- neither a star nor a call -/
noncomputable def dull (x : X) : Bool := !isStar x && (xcall? x).isNone
/-- neither a star nor a call -/
theorem cE1_or (f : PySem.Expr → X) (e : PySem.Expr) : ((call? e).isSome || ((star? e).isSome || dull (cE1 f e))) = true := by
  cases e with
  | Constant c k p => show dull (cConst c) = true; exact Classical.byContradiction fun h => cConst_elim (P := fun x => ¬ dull x = true) h (fun h => h rfl) fun _ h => h rfl
  | UnaryOp op a p => show dull (cUn f op a) = true; exact Classical.byContradiction fun h => cUn_elim (P := fun x => ¬ dull x = true) h (fun h => h rfl) (fun _ h => h rfl) fun _ h => h rfl
  | Compare l ops rs p => show dull (cCmp f l ops rs) = true; exact Classical.byContradiction fun h => cCmp_elim (P := fun x => ¬ dull x = true) h (fun h => h rfl) fun _ _ _ _ h => h rfl
  | ListComp elt gens scope p => show dull (cComp f elt scope gens) = true; exact Classical.byContradiction fun h => cComp_elim (P := fun x => ¬ dull x = true) h (fun h => h rfl) fun _ _ _ _ _ _ h => h rfl
  | Subscript o i p => show dull (cSub f o i) = true; exact Classical.byContradiction fun h => cSub_elim (P := fun x => ¬ dull x = true) h (fun h => h rfl) (fun _ _ _ _ h => h rfl) (fun _ _ _ _ _ h => h rfl) fun h => h rfl
  | _ => exact rfl
theorem cE1_dull {f : PySem.Expr → X} {e : PySem.Expr} (h1 : call? e = none) (h2 : star? e = none) : dull (cE1 f e) = true := by
  have := cE1_or f e
  rw [h1, h2] at this
  exact this
/-! stars -/
theorem star_cE {e : PySem.Expr} (h : isStar (cE m e) = true) : ∃ e' p m', e = .Starred e' p ∧ m = m' + 1 ∧ cE m e = .star (cE m' e') := by
  cases m with
  | zero => exact ff h
  | succ m =>
    rw [cE_succ] at h ⊢
    cases h1 : call? e with
    | some q =>
      obtain ⟨g, args, kw⟩ := q
      obtain ⟨pos, rfl⟩ := call?_some h1
      exact cCall_elim (P := fun x => isStar x = true) h ff (fun _ _ _ _ h => ff h) fun _ _ _ _ _ _ _ _ _ h => ff h
    | none => cases h2 : star? e with
      | some e' => obtain ⟨p, rfl⟩ := star?_some h2; exact ⟨e', p, m, rfl, rfl, rfl⟩
      | none =>
        have d := cE1_dull (f := cE m) h1 h2
        unfold dull at d
        rw [h] at d
        exact ff d
theorem call_cE {e : PySem.Expr} {f : Str} {args : List X} (h : xcall? (cE m e) = some (f, args)) : ∃ m' es p pos, m = m' + 1 ∧ e = .Call (.Name f p) es [] pos ∧ args = es.map (cE m') := by
  cases m with
  | zero => exact ooNo h
  | succ m =>
    rw [cE_succ] at h
    cases h1 : call? e with
    | some q =>
      obtain ⟨g, es, kw⟩ := q
      obtain ⟨pos, rfl⟩ := call?_some h1
      refine cCall_elim (P := fun x => xcall? x = some (f, args)) h (fun h => ooNo h) (fun x p e1 e2 h => ?_) fun _ _ _ _ _ _ _ _ _ h => ooNo h
      cases h
      exact ⟨m, es, p, pos, rfl, by rw [e1, e2], rfl⟩
    | none => cases h2 : star? e with
      | some e' => obtain ⟨p, rfl⟩ := star?_some h2; exact ooNo h
      | none =>
        have d := cE1_dull (f := cE m) h1 h2
        unfold dull at d
        rw [h, Bool.and_eq_true] at d
        exact ff d.2
theorem starEach_plain {e : PySem.Expr} {r : List PySem.Expr} (h : ∀ e' p, e ≠ .Starred e' p) : starEach (e :: r) env = (false, eval e env) :: starEach r env := by
  cases e <;> first | rfl | exact absurd rfl (h _ _)
theorem evArg_plain {f : Hp → X → Option (AV × Hp)} {x : X} (h : isStar x = false) : evArg f H x = match f H x with | some (v, H1) => some ([v], H1) | none => none := by
  cases x <;> first | rfl | cases h
end
end Mine

namespace Mine
open PySem PySem.Calls PyProof.Rows PySem.W

section
variable {prog : Program} {w : World} {cx : Cx} {h₀ : Heap} {ih : Ev} {n m : Nat}
variable {B : Base} {ρ : List Addr} {H H' H₁ : Hp} {s : Shared} {ae : AEnv} {env : Env} {A : Around} {E : Value → Shared → Prop} {v : AV}

theorem rdSeq_at (S : St B ρ H s) {k : Nat} {xs : List AV} (h : rdSeq H k = some xs) : xs.length ≤ lim ∧ ∃ a, ∃ vs : List Value, ρ[k]? = some a ∧ VRs ρ xs vs ∧ ((s.heap.IsList a vs.toArray) ∨ (s.heap.IsTuple a vs.toArray)) := by
  refine ooSeq h ?_ ?_ ?_
  · clear h; intros; rename_i e h
    cases h
    refine hide fun GG hGG => ?_
    obtain ⟨a, ha, z, vs, hl, hv⟩ := S.addr e
    refine hGG ?_
    clear hGG GG
    exact ⟨z, a, vs, ha, hv, .inl hl.isList⟩
  · clear h; intros; rename_i e h
    cases h
    refine hide fun GG hGG => ?_
    obtain ⟨a, ha, z, vs, hl, hv⟩ := S.addr e
    refine hGG ?_
    clear hGG GG
    exact ⟨z, a, vs, ha, hv, .inl hl.isList⟩
  · clear h; intros; rename_i e h
    cases h
    refine hide fun GG hGG => ?_
    obtain ⟨a, ha, z, vs, hl, hv⟩ := S.addr e
    refine hGG ?_
    clear hGG GG
    exact ⟨z, a, vs, ha, hv, .inr hl⟩

theorem star_sound (S : St B ρ H s) {k : Nat} {xs : List AV} {x : Value} (h : rdSeq H k = some xs) (hx : VR ρ (.obj k) x) : StarOf (model prog w) A E x (Post B ρ s H fun ρ' ws => VRs ρ' xs ws) s := by
  refine hide fun GG hGG => ?_
  obtain ⟨z, a, vs, ha, hv, c⟩ := rdSeq_at S h
  obtain ⟨a', ha', rfl⟩ := hx
  refine hGG ?_
  clear hGG GG
  rw [ha] at ha'; cases ha'
  have hvl := hv.length
  have hs := lim_le
  have fin : ∀ {T : String} {o : Obj} {its : Array Value} {n : Nat}, (T = "list" ∨ T = "tuple") → s.heap.get? a = some o → o.cls = .type T → o.data = .seq its n → its = vs.toArray → StarOf (model prog w) A E (.ref a) (Post B ρ s H fun ρ' ws => VRs ρ' xs ws) s := by
    intro T o its n hT ho hc hd he
    subst he
    have hT' : s.TypeIs (.ref a) T := ⟨o, ho, hc⟩
    have zz : wpAny (model prog w) A (collect (.ref a)) (Post B ρ s H fun ρ' ws => VRs ρ' xs ws) E s :=
      wpAny_collect_seq a hT ho hc hd (fun h' hk => .here ⟨h', s.toks, rfl⟩ (by simpa using hv) (S.grow hk s.toks)) (by simp; omega)
    unfold StarOf notIterableAtAll
    rcases hT with rfl | rfl
    · exact wpAny_bind (wpAny_specialOf hT' PySem.F.slot_list_iter.lookup (wpAny_pure ⟨rfl, zz⟩))
    · exact wpAny_bind (wpAny_specialOf hT' PySem.F.slot_tuple_iter.lookup (wpAny_pure ⟨rfl, zz⟩))
  rcases c with ⟨o, ho, hc, n, hd⟩ | ⟨o, ho, hc, n, hd⟩
  · exact fin (.inl rfl) ho hc hd rfl
  · exact fin (.inr rfl) ho hc hd rfl

theorem list_sound (I : Snd prog w h₀ ih n) {pos : Pos} : ∀ (es : List PySem.Expr) {ρ : List Addr} {H : Hp} {s : Shared} {vs : List AV}, Here h₀ B ρ ae env H s A n → evList (ih.e ae) H (es.map (cE m)) = some (vs, H') →
    wpAny (model prog w) A (spliced (backTo pos (starEach es env))) (Post B ρ s H' fun ρ' ws => VRs ρ' vs ws) E s
  | [], ρ, H, s, vs, c, h => by
    cases h
    exact spliced_nil (.here (Same.refl s) trivial c.S)
  | e :: r, ρ, H, s, vs, c, h => by
    refine ooVs h ?_
    clear h; intros; rename_i here H1 h1 h
    refine ooVs h ?_
    clear h; intros; rename_i vs' H2 h2 h
    cases h
    cases hst : isStar (cE m e) with
    | true =>
      refine hide fun GG hGG => ?_
      obtain ⟨e', p, m', rfl, _, hc⟩ := star_cE hst
      refine hGG ?_
      clear hGG GG
      rw [hc] at h1
      refine ooObjP h1 ?_
      clear h1; intros; rename_i k H3 h3 h1
      refine ooLA h1 ?_
      clear h1; intros; rename_i xs hx h1
      cases h1
      refine items_star (nxt (goE I c h3) fun x s₁ ρ₁ sm p₁ hv S₁ => ?_)
      have := star_sound (prog := prog) (w := w) (A := A) (E := E) S₁ hx hv
      unfold StarOf at this ⊢
      refine wpAny_mono this (fun b s₂ hb => ⟨hb.1, ?_⟩) fun _ _ e => e
      refine wpAny_mono hb.2 (fun ws s₃ hq => ?_) fun _ _ e => e
      refine hide fun GG hGG => ?_
      obtain ⟨sm₃, ρ₃, p₃, hws, S₃⟩ := hq
      refine hGG ?_
      clear hGG GG
      refine nxt (list_sound I r (c.next (p₁.trans p₃) S₃) h2) fun us s₄ ρ₄ sm₄ p₄ hus S₄ => ?_
      exact .up (sm.trans (sm₃.trans sm₄)) (p₁.trans (p₃.trans p₄)) (.here (Same.refl _) ((hws.mono p₄).append hus) S₄)
    | false =>
      by_cases he : ∃ e' p, e = .Starred e' p
      · refine hide fun GG hGG => ?_
        obtain ⟨e', p, rfl⟩ := he
        refine hGG ?_
        clear hGG GG
        cases m with
        | zero => have h1 : (match ih.e ae _ .bad with | some (v, H1) => some ([v], H1) | none => none) = some _ := h1; rw [I.nb] at h1; exact ooNo h1
        | succ m => cases hst
      · have hne : ∀ e' p, e ≠ .Starred e' p := fun e' p q => he ⟨e', p, q⟩
        rw [evArg_plain hst] at h1
        rw [starEach_plain hne]
        refine ooP h1 ?_
        clear h1; intros; rename_i v' H3 h3 h1
        cases h1
        show wpAny _ _ (spliced ((false, eval e env) :: backTo pos (starEach r env))) _ _ _
        refine spliced_cons (nxt (goE I c h3) fun x s₁ ρ₁ sm p₁ hv S₁ => ?_)
        refine nxt (list_sound I r (c.next p₁ S₁) h2) fun us s₄ ρ₄ sm₄ p₄ hus S₄ => ?_
        exact .up (sm.trans sm₄) (p₁.trans p₄) (.here (Same.refl _) ⟨hv.mono p₄, hus⟩ S₄)

/-- flags -/
theorem noStar_flags (I : Snd prog w h₀ ih n) {pos : Pos} : ∀ (es : List PySem.Expr) {H H' : Hp} {vs : List AV}, evList (ih.e ae) H (es.map (cE m)) = some (vs, H') → (es.map (cE m)).any isStar = false →
    (backTo pos (starEach es env)).any (·.1) = false ∧ (backTo pos (starEach es env)).all (fun x => !x.1) = true
  | [], _, _, _, _, _ => ⟨rfl, rfl⟩
  | e :: r, H, H', vs, h, hs => by
    rw [List.map_cons, List.any_cons, Bool.or_eq_false_iff] at hs
    refine ooVs h ?_
    clear h; intros; rename_i here H1 h1 h
    refine ooVs h ?_
    clear h; intros; rename_i vs' H2 h2 h
    have ⟨i1, i2⟩ := noStar_flags I (pos := pos) r h2 hs.2
    by_cases he : ∃ e' p, e = .Starred e' p
    · refine hide fun GG hGG => ?_
      obtain ⟨e', p, rfl⟩ := he
      refine hGG ?_
      clear hGG GG
      cases m with
      | zero => have h1 : (match ih.e ae _ .bad with | some (v, H1) => some ([v], H1) | none => none) = some _ := h1; rw [I.nb] at h1; exact ooNo h1
      | succ m => exact ff hs.1.symm
    · have hne : ∀ e' p, e ≠ .Starred e' p := fun e' p q => he ⟨e', p, q⟩
      rw [starEach_plain hne]
      exact ⟨by show (false || _) = false; rw [Bool.false_or]; exact i1, by show (!false && _) = true; simp only [Bool.not_false, Bool.true_and]; exact i2⟩
theorem starEach_length : ∀ (es : List PySem.Expr), (starEach es env).length = es.length
  | [] => rfl
  | e :: r => by
    have ih := starEach_length r
    cases e <;> exact congrArg (· + 1) ih
theorem backTo_length {pos : Pos} (es : List PySem.Expr) : (backTo pos (starEach es env)).length = es.length := (List.length_map _).trans (starEach_length es)
theorem evalArgs_sp {M : Model} {f : Value} {args : List (Bool × Sem Value)} {Q : Args → Shared → Prop} (hl : ∀ x, args ≠ [(true, x)])
    (h : wpAny M A (spliced args) (fun vs s' => Q ⟨vs, []⟩ s') E s) : wpAny M A (evalArgs f true args []) Q E s := by
  match args, hl, h with
  | [], _, h =>
    unfold evalArgs
    show wpAny M A (spliced [] >>= _) Q E s
    refine wpAny_bind (wpAny_mono h (fun vs s' h' => ?_) fun _ _ x => x)
    refine wpAny_holding ?_
    exact wpAny_bind (wpAny_pure (wpAny_bind (wpAny_pure (wpAny_pure h'))))
  | (false, x) :: rest, _, h => exact evalArgs_plain h
  | (true, x) :: y :: rest, _, h =>
    unfold evalArgs
    show wpAny M A (spliced ((true, x) :: y :: rest) >>= _) Q E s
    refine wpAny_bind (wpAny_mono h (fun vs s' h' => ?_) fun _ _ x => x)
    refine wpAny_holding ?_
    exact wpAny_bind (wpAny_pure (wpAny_bind (wpAny_pure (wpAny_pure h'))))
  | [(true, x)], hl, _ => exact absurd rfl (hl x)
end
end Mine

namespace Mine
open PySem PySem.Calls PyProof.Rows PySem.W

section
variable {prog : Program} {w : World} {cx : Cx} {h₀ : Heap} {ih : Ev} {n m : Nat}
variable {B : Base} {ρ : List Addr} {H H' H₁ : Hp} {s : Shared} {ae : AEnv} {env : Env} {A : Around} {E : Value → Shared → Prop} {v : AV}

/-- what a step of an expression is to show -/
noncomputable def Shows (prog : Program) (w : World) (A : Around) (E : Value → Shared → Prop) (B : Base) (ρ : List Addr) (s : Shared) (env : Env) (e : PySem.Expr) (v : AV) (H' : Hp) : Prop :=
  wpAny (model prog w) A (eval e env) (Post B ρ s H' fun ρ' x => VR ρ' v x) E s

theorem e_const {c : Const} {k : Nat} {pos : Pos} (h0 : Here h₀ B ρ ae env H s A n) (h : stepE cx ih ae H (cConst c) = some (v, H')) : Shows prog w A E B ρ s env (.Constant c k pos) v H' := by
  unfold Shows
  cases c with
  | none => cases h; exact wpAny_Constant_none (post_imm (v := .none) h0.S rfl s.toks)
  | bool b => cases h; exact wpAny_Constant_bool (post_imm (v := .bool b) h0.S rfl s.toks)
  | int i => cases h; exact wpAny_Constant_int (post_imm (v := .int i) h0.S ⟨_, rfl⟩ _)
  | str x =>
    have h : stepE cx ih ae H (cStr x) = some (v, H') := h
    unfold cStr at h
    cases hx : okL x.cps.toList with
    | true =>
      rw [hx] at h
      cases h
      exact wpAny_Constant_str (post_imm (v := .str x) h0.S ⟨okL_le hx, _, rfl⟩ _)
    | false => rw [hx] at h; exact ooNo h
  | _ => exact ooNo h

theorem eName_sound {x : Str} {p : Pos} {Q : Value → Shared → Prop} (G : Gd prog w cx h₀) (c : Here h₀ B ρ ae env H s A n) (h : eName cx ae H x = some (v, H')) (k : H' = H → ∀ u, VR ρ v u → Q u s) : wpAny (model prog w) A (eval (.Name x p) env) Q E s := by
  refine ooF h ?_
  clear h; intros; rename_i hd h
  refine ooAV h ?_
  clear h; intros; rename_i v' hv h
  cases h
  exact wpAny_Name (rdVar_sound G hv c.hB c.V c.S fun u hu => k rfl u hu) (beq_eq_false_iff_ne.mpr (seq_false.mp hd))

theorem boolOp_cons {pos : Pos} {op : BoolOp} {x y : Sem Value} {r : List (Sem Value)} {M : Model} {Q : Value → Shared → Prop}
    (h : wpAny M A x (fun v s₁ => wpAny M A (truthy v) (fun t s₂ => (match op, t with | .And, false => Q v s₂ | .Or, true => Q v s₂ | _, _ => wpAny M A (boolOp pos op (y :: r)) Q E s₂)) E s₁) E s) :
    wpAny M A (boolOp pos op (x :: y :: r)) Q E s := by
  show wpAny M A (x >>= fun v => standAt pos >>= fun _ => holding [v] (truthy v) >>= fun t => match op, t with | .And, false => pure v | .Or, true => pure v | _, _ => boolOp pos op (y :: r)) Q E s
  refine wpAny_bind (wpAny_mono h (fun v s₁ h₁ => wpAny_bind (wpAny_standAt (wpAny_bind (wpAny_holding (wpAny_mono h₁ (fun t s₂ h₂ => ?_) fun _ _ e => e))))) fun _ _ e => e)
  cases op <;> cases t <;> first | exact h₂ | exact wpAny_pure h₂

theorem bool_sound (I : Snd prog w h₀ ih n) {pos : Pos} {op : BoolOp} : ∀ (es : List PySem.Expr) {ρ : List Addr} {H : Hp} {s : Shared}, Here h₀ B ρ ae env H s A n → eBool (ih.e ae) op (es.map (cE m)) H = some (v, H') →
    wpAny (model prog w) A (boolOp pos op (evalEach es env)) (Post B ρ s H' fun ρ' x => VR ρ' v x) E s
  | [], _, _, _, _, h => by cases h
  | [a], ρ, H, s, c, h => goE I c h
  | a :: b :: r, ρ, H, s, c, h => by
    have ih' := fun {ρ H s} => bool_sound I (pos := pos) (op := op) (b :: r) (ρ := ρ) (H := H) (s := s)
    rw [List.map_cons, List.map_cons] at h
    unfold eBool at h
    simp only at h
    refine ooP h ?_
    clear h; intros; rename_i u H1 h1 h
    refine ooB h ?_
    clear h; intros; rename_i t ht h
    refine boolOp_cons (nxt (goE I c h1) fun x s₁ ρ₁ sm p hx S₁ => truth_sound S₁ ht hx fun tk => ?_)
    have S₂ := S₁.toks tk
    have sm₂ : Same s₁ { s₁ with toks := tk } := ⟨s₁.heap, tk, rfl⟩
    cases op <;> cases t <;> simp only [boolGo] at h ⊢
    · cases h; exact .up (sm.trans sm₂) p (.here (Same.refl _) hx S₂)
    · exact lift (sm.trans sm₂) p (ih' (c.next p S₂) h)
    · exact lift (sm.trans sm₂) p (ih' (c.next p S₂) h)
    · cases h; exact .up (sm.trans sm₂) p (.here (Same.refl _) hx S₂)

theorem e_bin (I : Snd prog w h₀ ih n) {l r : PySem.Expr} {op : Operator} {pos : Pos} (c : Here h₀ B ρ ae env H s A n) (h : eBin ih ae H (cE m l) op (cE m r) = some (v, H')) : Shows prog w A E B ρ s env (.BinOp l op r pos) v H' := by
  refine ooP h ?_
  clear h; intros; rename_i a H1 h1 h
  refine ooP h ?_
  clear h; intros; rename_i b H2 h2 h
  exact wpAny_BinOp (two I c h1 h2 fun x y s₂ ρ₂ sm p hx hy S₂ => lift sm p (binop_sound S₂ h hx hy))

theorem e_not (I : Snd prog w h₀ ih n) {a : PySem.Expr} {pos : Pos} (c : Here h₀ B ρ ae env H s A n) (h : eNot ih ae H (cE m a) = some (v, H')) : Shows prog w A E B ρ s env (.UnaryOp .Not a pos) v H' := by
  refine ooP h ?_
  clear h; intros; rename_i u H1 h1 h
  refine ooB h ?_
  clear h; intros; rename_i b hb h
  cases h
  exact wpAny_UnaryOp (nxt (goE I c h1) fun x s₁ ρ₁ sm p hx S₁ => lift sm p (not_value (truth_sound S₁ hb hx fun t => post_imm (v := .bool _) S₁ rfl t)))
theorem e_neg (I : Snd prog w h₀ ih n) {a : PySem.Expr} {pos : Pos} (c : Here h₀ B ρ ae env H s A n) (h : eNeg ih ae H (cE m a) = some (v, H')) : Shows prog w A E B ρ s env (.UnaryOp .USub a pos) v H' := by
  refine ooIntP h ?_
  clear h; intros; rename_i i H1 h1 h
  cases h
  refine wpAny_UnaryOp (nxt (goE I c h1) fun x s₁ ρ₁ sm p hx S₁ => lift sm p ?_)
  obtain ⟨t, rfl⟩ := hx
  exact neg_int (post_imm (v := .int _) S₁ ⟨s₁.toks, rfl⟩ _)
theorem e_ite (I : Snd prog w h₀ ih n) {t a b : PySem.Expr} {pos : Pos} (c : Here h₀ B ρ ae env H s A n) (h : eIf ih ae H (cE m t) (cE m a) (cE m b) = some (v, H')) : Shows prog w A E B ρ s env (.IfExp t a b pos) v H' := by
  refine ooTF h ?_ ?_
  · clear h; intros; rename_i H1 h1 h
    refine wpAny_IfExp (nxt (goT I c h1) fun x s₁ ρ₁ sm p hx S₁ => ?_)
    subst hx
    exact lift sm p (goE I (c.next p S₁) h)
  · clear h; intros; rename_i H1 h1 h
    refine wpAny_IfExp (nxt (goT I c h1) fun x s₁ ρ₁ sm p hx S₁ => ?_)
    subst hx
    exact lift sm p (goE I (c.next p S₁) h)
theorem e_list (I : Snd prog w h₀ ih n) {es : List PySem.Expr} {pos : Pos} (c : Here h₀ B ρ ae env H s A n) (h : eSeq ih ae H allocL (es.map (cE m)) = some (v, H')) : Shows prog w A E B ρ s env (.List es pos) v H' := by
  have hl := lim_le
  refine ooF h ?_
  clear h; intros; rename_i h
  refine ooVs h ?_
  clear h; intros; rename_i vs H1 h1 h
  obtain ⟨hz, rfl, rfl⟩ := allocL_some h
  refine wpAny_List (nxt (list_sound I es c h1) fun ws s₁ ρ₁ sm p hws S₁ => ⟨by rw [hws.length]; omega, ?_⟩)
  exact .up sm p (post_list S₁ hws hz (push_keeps _ _) (Nat.le_refl _) (push_plain _ _) s₁.toks)
theorem push_tuple (h : Heap) (its : Array Value) : (h.push { cls := .type "tuple", data := .seq its }).IsTuple h.objs.size its := ⟨_, Heap.get?_push_size _ rfl, rfl, _, rfl⟩
theorem e_tup (I : Snd prog w h₀ ih n) {es : List PySem.Expr} {k : Nat} {pos : Pos} (c : Here h₀ B ρ ae env H s A n) (h : eSeq ih ae H allocT (es.map (cE m)) = some (v, H')) : Shows prog w A E B ρ s env (.Tuple es k pos) v H' := by
  have hl := lim_le
  refine ooF h ?_
  clear h; intros; rename_i h
  refine ooVs h ?_
  clear h; intros; rename_i vs H1 h1 h
  obtain ⟨hz, rfl, rfl⟩ := allocT_some h
  refine wpAny_Tuple (nxt (list_sound I es c h1) fun ws s₁ ρ₁ sm p hws S₁ => ⟨by rw [hws.length]; omega, ?_⟩)
  exact .up sm p (post_tup S₁ hws hz (push_keeps _ _) (Nat.le_refl _) (push_tuple _ _) s₁.toks)

theorem marks (I : Snd prog w h₀ ih n) {r : PySem.Expr} {op : CmpOp} {x : AV × Hp} (h : ih.e ae H (cE m r) = some x) : behindInMarks op r = false := by
  cases r <;> first | rfl | skip
  exfalso
  have e : ∀ {a b c : _}, cE m (.Set a b c) = .bad := by cases m <;> exact rfl
  rw [e, I.nb] at h
  exact ooNo h
theorem Rm.u20 (R : Rm A n) : A.units + 20 < cLine := Nat.lt_of_le_of_lt (Nat.add_le_add_right (Nat.le_trans (Nat.le_add_right _ _) (Nat.le_of_lt R.units)) 20) (by decide)
theorem e_cmp (I : Snd prog w h₀ ih n) {l r : PySem.Expr} {op : CmpOp} {b : Bool} {pos : Pos} (c : Here h₀ B ρ ae env H s A n) (h : eCmp ih ae H (cE m l) op (cE m r) = some (b, H')) : Shows prog w A E B ρ s env (.Compare l [op] [r] pos) (.bool b) H' := by
  refine ooP h ?_
  clear h; intros; rename_i a H1 h1 h
  refine ooP h ?_
  clear h; intros; rename_i u H2 h2 h
  refine ooB h ?_
  clear h; intros; rename_i t ht h
  cases h
  exact wpAny_Compare1 (two I c h1 h2 fun x y s₂ ρ₂ sm p hx hy S₂ => cmpop_sound S₂ ht hx hy c.R.u20 (.up sm p (post_imm (v := .bool _) S₂ rfl s₂.toks))) (marks I h2)
theorem t_cmp (I : Snd prog w h₀ ih n) {l r : PySem.Expr} {op : CmpOp} {b : Bool} {pos : Pos} {whole : Sem Value} (c : Here h₀ B ρ ae env H s A n) (h : eCmp ih ae H (cE m l) op (cE m r) = some (b, H')) :
    wpAny (model prog w) A (isTrue (.Compare l [op] [r] pos) env whole) (Post B ρ s H' fun _ x => x = b) E s := by
  refine ooP h ?_
  clear h; intros; rename_i a H1 h1 h
  refine ooP h ?_
  clear h; intros; rename_i u H2 h2 h
  refine ooB h ?_
  clear h; intros; rename_i t ht h
  cases h
  exact wpAny_isTrue_Compare1 (two I c h1 h2 fun x y s₂ ρ₂ sm p hx hy S₂ => cmpop_sound S₂ ht hx hy c.R.u20 (wpAny_truthy_bool (.up sm p (.here (Same.refl _) rfl S₂)))) (marks I h2)

/-! parts of things -/
theorem tail_sound {value slice : PySem.Expr} {o i : Value} {Q : Value → Shared → Prop} (h : ItemOn (model prog w) A E o i Q s) : wpAny (model prog w) A (subscriptTail value slice o i) Q E s := by
  obtain ⟨T, id, hl, hT, hg⟩ := h
  cases hsl : slice with
  | Slice a b st p =>
    cases st with
    | none => exact tail_any (ops := [i, o]) hT hl hg rfl
    | some st => exact tail_any (ops := [o, i]) hT hl hg rfl
  | _ => exact tail_any (ops := [o, i]) hT hl hg rfl

theorem index_item (S : St B ρ H s) {o v : AV} {i : Int} {u : Tok} {x : Value} (h : index H o i = some v) (hx : VR ρ o x) :
    ItemOn (model prog w) A E x (.int i u) (Post B ρ s H fun ρ' z => VR ρ' v z) s := by
  have key := index_sound (prog := prog) (w := w) (A := A) (E := E) (u := u) S h hx (Q := Post B ρ s H fun ρ' z => VR ρ' v z) fun z t hz => .here ⟨s.heap, t, rfl⟩ hz (S.toks t)
  cases o with
  | str p =>
    obtain ⟨_, t, rfl⟩ := hx
    exact ⟨"str", _, F.slot_str_getitem.lookup, typeIs_str _ _ _, key⟩
  | obj k =>
    refine ooLA (show idxO H k i = some v from h) fun xs e h => ?_
    obtain ⟨z, a, vs, ha, hv, hc⟩ := rdSeq_at S e
    obtain ⟨a', ha', rfl⟩ := hx
    rw [ha] at ha'; cases ha'
    rcases hc with hl | ht
    · exact ⟨"list", _, list_getitem_lookup, hl.typeIs, key⟩
    · obtain ⟨o, ho, hc, n, hd⟩ := ht
      exact ⟨"tuple", _, PySem.F.slot_tuple_getitem.lookup, ⟨o, ho, hc⟩, key⟩
  | _ => exact ooNo h
theorem e_item (I : Snd prog w h₀ ih n) {o i : PySem.Expr} {pos : Pos} (c : Here h₀ B ρ ae env H s A n) (h : eItem ih ae H (cE m o) (cE m i) = some (v, H')) : Shows prog w A E B ρ s env (.Subscript o i pos) v H' := by
  refine ooP h ?_
  clear h; intros; rename_i a H1 h1 h
  refine ooIntP h ?_
  clear h; intros; rename_i j H2 h2 h
  refine ooAV h ?_
  clear h; intros; rename_i r hr h
  cases h
  refine Subscript_ (two I c h1 h2 fun x y s₂ ρ₂ sm p hx hy S₂ => lift sm p ?_)
  obtain ⟨t, rfl⟩ := hy
  exact tail_sound (index_item S₂ hr hx)

theorem optNat_sound (I : Snd prog w h₀ ih n) {e : Option PySem.Expr} {k : Option Nat} (c : Here h₀ B ρ ae env H s A n) (h : optNat (ih.e ae) H (e.map (cE m)) = some (k, H')) :
    wpAny (model prog w) A (evalPart e env) (Post B ρ s H' fun _ x => PartIs k x) E s := by
  cases e with
  | none =>
    cases h
    rw [evalPart_none]
    exact wpAny_pure (.here (Same.refl _) rfl c.S)
  | some e =>
    refine ooNatP h fun k' H1 h1 h => ?_
    cases h
    rw [evalPart_some]
    exact wpAny_mono (goE I c h1) (fun x s₁ hp => hp.imp fun ρ' hx => hx) fun _ _ e => e
theorem e_slice (I : Snd prog w h₀ ih n) {o : PySem.Expr} {lo hi : Option PySem.Expr} {p pos : Pos} (c : Here h₀ B ρ ae env H s A n) (h : eSlice ih ae H (cE m o) (lo.map (cE m)) (hi.map (cE m)) = some (v, H')) :
    Shows prog w A E B ρ s env (.Subscript o (.Slice lo hi none p) pos) v H' := by
  refine ooP h ?_
  clear h; intros; rename_i a H1 h1 h
  refine ooO h ?_
  clear h; intros; rename_i l H2 h2 h
  refine ooO h ?_
  clear h; intros; rename_i k H3 h3 h
  refine Subscript_ (nxt (goE I c h1) fun x s₁ ρ₁ sm₁ p₁ hx S₁ => wpAny_Slice (nxt (optNat_sound I (c.next p₁ S₁) h2) fun vl s₂ ρ₂ sm₂ p₂ hl S₂ =>
    nxt (optNat_sound I (c.next (p₁.trans p₂) S₂) h3) fun vu s₃ ρ₃ sm₃ p₃ hu S₃ => ?_))
  rw [evalPart_none]
  refine wpAny_pure (tail_sound ?_)
  have := slice_item (prog := prog) (w := w) (A := A) (E := E) S₃ h (hx.mono (p₂.trans p₃)) hl hu
  obtain ⟨T, id, q1, q2, q3⟩ := this
  exact ⟨T, id, q1, q2, wpAny_mono q3 (fun _ _ hp => hp.up (sm₁.trans (sm₂.trans sm₃)) (p₁.trans (p₂.trans p₃))) fun _ _ e => e⟩
end
end Mine

namespace Mine
open PySem PySem.Calls PyProof.Rows PySem.W

section
variable {prog : Program} {w : World} {cx : Cx} {h₀ : Heap} {ih : Ev} {n m : Nat}
variable {B : Base} {ρ : List Addr} {H H' H₁ : Hp} {s : Shared} {ae : AEnv} {env : Env} {A : Around} {E : Value → Shared → Prop} {v : AV}

theorem e_rev (I : Snd prog w h₀ ih n) {o : PySem.Expr} {k : Nat} {p1 p2 p3 pos : Pos} (c : Here h₀ B ρ ae env H s A n) (h : eRev ih ae H (cE m o) = some (v, H')) :
    Shows prog w A E B ρ s env (.Subscript o (.Slice none none (some (.UnaryOp .USub (.Constant (.int 1) k p1) p2)) p3) pos) v H' := by
  have hl := lim_le
  refine ooObjP h ?_
  clear h; intros; rename_i q H1 h1 h
  refine ooLA h ?_
  clear h; intros; rename_i xs e h
  refine hide fun GG hGG => ?_
  obtain ⟨hz, rfl, rfl⟩ := allocL_some h
  refine hGG ?_
  clear hGG GG
  refine Subscript_ (nxt (goE I c h1) fun x s₁ ρ₁ sm₁ p₁ hx S₁ => wpAny_Slice ?_)
  rw [evalPart_none]
  refine wpAny_pure (wpAny_pure ?_)
  rw [evalPart_some]
  refine wpAny_UnaryOp (wpAny_Constant_int (neg_int ?_))
  refine hide fun GG hGG => ?_
  obtain ⟨z, d, vs, hd, hL, hV⟩ := rdList_at S₁ e
  obtain ⟨d', hd', rfl⟩ := hx
  refine hGG ?_
  clear hGG GG
  rw [hd] at hd'; cases hd'
  have hvl := hV.length
  refine tail_sound ⟨"list", _, list_getitem_lookup, (hL.isList.push _).typeIs, wpAny_getItem_list_slice (hL.isList.push _) (Heap.IsSliceOf.new ..) .none .none (.int (-1) _) (by simp) ?_ (by simp; omega)⟩
  rw [rev_pick]
  exact .up sm₁ p₁ (post_list S₁ hV.reverse hz (fun b o e => push_keeps _ _ b o (push_keeps _ _ b o e)) (by rw [Heap.size_push]; omega) (push_plain (s₁.heap.push _) _) _)

theorem base_of {o : PySem.Expr} {attr : Str} {whole : Sem Value} (h : notSuper o = true) : attributeBase o attr env whole = whole := by
  cases o with
  | Call g args kw p =>
    cases g with
    | Name id q =>
      have hne : (id != "super") = true := by
        have h : (!seq id superName) = true := h
        rw [Bool.not_eq_true'] at h
        exact bne_iff_ne.mpr (seq_false.mp h)
      cases args with
      | nil => cases kw with
        | nil => unfold attributeBase; simp only [hne, Bool.true_or, if_true]
        | cons _ _ => rfl
      | cons _ _ => rfl
    | _ => rfl
  | _ => rfl

theorem e_meth (I : Snd prog w h₀ ih n) {o : PySem.Expr} {name : Str} {apos pos : Pos} {args : List PySem.Expr} {mt : Meth} (c : Here h₀ B ρ ae env H s A n) (hl : Nat.beq apos.endLine pos.line = true) (hn : lkp name methTab = some mt) (hs : notSuper o = true)
    (h : eMeth ih ae H (cE m o) mt (args.map (cE m)) = some (v, H')) : Shows prog w A E B ρ s env (.Call (.Attribute o name apos) args [] pos) v H' := by
  refine ooF h ?_
  clear h; intros; rename_i hst h
  rw [Bool.or_eq_false_iff] at hst
  refine ooP h ?_
  clear h; intros; rename_i u H1 h1 h
  refine ooT h ?_
  clear h; intros; rename_i hr h
  refine ooVs h ?_
  clear h; intros; rename_i vs H2 h2 h
  unfold Shows
  rw [arm_eval_Call, base_of hs]
  refine wpAny_bind (nxt (goE I c h1) fun x s₁ ρ₁ sm₁ p₁ hx S₁ => wpAny_bind (wpAny_standAt ?_))
  have fl := noStar_flags (pos := pos) (env := env) I args h2 hst.1
  have hlen : args.length < 20 := by
    have := hst.2
    rw [List.length_map] at this
    exact Nat.lt_of_not_le fun q => by rw [Nat.ble_eq_true_of_le q] at this; cases this
  have hform : methodCallForm (args.length + ([] : List Keyword).length) (backTo pos (starEach args env)) (backToKw pos (keywordEach [] env)) = true := by
    unfold methodCallForm
    rw [fl.2]
    simp [backToKw, keywordEach]
    omega
  have hpos : methodCallPos true o env apos pos = pure pos := by
    unfold methodCallPos
    have : (apos.endLine == pos.line) = true := beq_iff_eq.mpr (Nat.eq_of_beq_eq_true hl)
    simp [this]
  unfold methodCall
  rw [hform]
  refine wpAny_bind (wpAny_holding (getMeth_sound S₁ hn hr hx ?_))
  refine wpAny_bind (wpAny_of_eq hpos ?_)
  refine callWith_builtin fl.1 (evalArgs_sp ?_ ?_)
  · intro q e
    have := fl.1
    rw [e] at this
    cases this
  · refine nxt (list_sound I args (c.next p₁ S₁) h2) fun ws s₂ ρ₂ sm₂ p₂ hws S₂ => ?_
    exact lift (sm₁.trans sm₂) (p₁.trans p₂) (callMeth_sound S₂ h (hx.mono p₂) hws)

theorem apply_fn (G : Gd prog w cx h₀) (I : Snd prog w h₀ ih n) (hr : cx.r ≤ n) {a : Addr} {vs : List AV} {ws : List Value} (c : Here h₀ B ρ ae env H s A n) (h : applyCall cx ih H (.fn a) vs = some (v, H')) (hv : VRs ρ vs ws) :
    (∃ o fd, s.heap.get? a = some o ∧ o.data = .func fd) ∧ wpAny (model prog w) A (call (.ref a) ws) (Post B ρ s H' fun ρ' z => VR ρ' v z) E s := by
  unfold applyCall at h
  simp only at h
  split at h
  · rename_i r hor
    cases h
    refine hide fun GG hGG => ?_
    obtain ⟨h1, h2, ⟨o, fd, ho, hf⟩, h3⟩ := G.orc _ _ _ hor
    refine hGG ?_
    clear hGG GG
    refine ⟨⟨o, fd, c.keep _ _ ho, hf⟩, wpAny_call (h3 ws A s _ (hv.imm h1) (c.R.le hr) c.keep ?_)⟩
    rintro x s' ⟨h', t, rfl, hx, hk⟩
    exact .here ⟨h', t, rfl⟩ (hx.imm h2) (c.S.grow hk t)
  · split at h
    · rename_i xs hor
      refine hide fun GG hGG => ?_
      obtain ⟨hz, rfl, rfl⟩ := allocL_some h
      obtain ⟨h1, h2, _, ⟨o, fd, ho, hf⟩, h3⟩ := G.orcL _ _ _ hor
      refine hGG ?_
      clear hGG GG
      refine ⟨⟨o, fd, c.keep _ _ ho, hf⟩, wpAny_call (h3 ws A s _ (hv.imm h1) (c.R.le hr) c.keep ?_)⟩
      rintro x s' ⟨h', t, d, ys, rfl, rfl, hd, hL, hy, hk⟩
      exact post_listN c.S (hy.imm h2) hz hk hd hL t
    · refine hide fun GG hGG => ?_
      obtain ⟨o, fd, ho, hf⟩ := I.cf _ _ _ _ h
      refine hGG ?_
      clear hGG GG
      exact ⟨⟨o, fd, c.keep _ _ ho, hf⟩, wpAny_call (I.c a vs ws B ρ H s A v H' h c.hB hv c.S c.R _ fun x s' hp => hp)⟩

theorem applyCall_fn {f : AV} {vs : List AV} {x : AV × Hp} (h : applyCall cx ih H f vs = some x) : (∃ a, f = .fn a) ∨ ∃ b, f = .bi b := by
  unfold applyCall at h
  split at h
  · exact .inl ⟨_, rfl⟩
  · exact .inr ⟨_, rfl⟩
  · cases h
theorem callWith_bi {M : Model} {pos : Pos} {b : BI} {args : List (Bool × Sem Value)} {Q : Value → Shared → Prop} (hplain : args.any (·.1) = false)
    (h : wpAny M A (evalArgs b.val true args []) (fun a s₁ => wpAny M A (call b.val ([] ++ a.pos) a.kw) Q E s₁) E s) : wpAny M A (callWith pos b.val [] args []) Q E s := by
  have h1 : (∃ T, b.val = .type T) ∨ ∃ id, b.val = .builtin id := by
    cases b <;> first | exact .inl ⟨_, rfl⟩ | exact .inr ⟨_, rfl⟩
  rcases h1 with ⟨T, e⟩ | ⟨id, e⟩
  · rw [e] at h ⊢; exact PyProof.Rows.callWith_type hplain h
  · rw [e] at h ⊢; exact callWith_builtin hplain h

theorem e_call (G : Gd prog w cx h₀) (I : Snd prog w h₀ ih n) (hr : cx.r ≤ n) {g : Str} {gp pos : Pos} {args : List PySem.Expr} (c : Here h₀ B ρ ae env H s A n) (h : eCall cx ih ae H g (args.map (cE m)) = some (v, H')) :
    Shows prog w A E B ρ s env (.Call (.Name g gp) args [] pos) v H' := by
  unfold eCall at h
  refine ooP h ?_
  clear h; intros; rename_i f H1 h1 h
  refine ooT h ?_
  clear h; intros; rename_i hok h
  refine ooVs h ?_
  clear h; intros; rename_i vs H2 h2 h
  refine Call_ (eName_sound G c h1 fun hH u hu => ?_)
  subst hH
  have hl := fun (q : Sem Value) (e : backTo pos (starEach args env) = [(true, q)]) => e
  rcases applyCall_fn h with ⟨a, rfl⟩ | ⟨b, rfl⟩
  · cases hu
    have hlone : ∀ q, backTo pos (starEach args env) ≠ [(true, q)] := by
      intro q e
      have hlen := backTo_length (pos := pos) (env := env) args
      rw [e] at hlen
      match args, hlen, hok, h2, e with
      | [x], _, hok, h2, e =>
        by_cases he : ∃ e' p, x = .Starred e' p
        · refine hide fun GG hGG => ?_
          obtain ⟨e', p, rfl⟩ := he
          refine hGG ?_
          clear hGG GG
          cases m with
          | zero =>
            refine ooVs h2 fun _ _ h3 _ => ?_
            have h3 : (match ih.e ae _ .bad with | some (v, H1) => some ([v], H1) | none => none) = some _ := h3
            rw [I.nb] at h3; exact ooNo h3
          | succ m => exact ff hok
        · rw [starEach_plain fun e' p q => he ⟨e', p, q⟩] at e
          simp [backTo] at e
    have key := fun {s₂ ρ₂} (c₂ : Here h₀ B ρ₂ ae env H2 s₂ A n) {ws} (hws : VRs ρ₂ vs ws) => apply_fn (E := E) G I hr c₂ h hws
    have pre : ∃ o fd, h₀.get? a = some o ∧ o.data = .func fd := by
      unfold applyCall at h
      simp only at h
      split at h
      · rename_i r hor
        exact (G.orc _ _ _ hor).2.2.1
      · split at h
        · rename_i xs hor
          exact (G.orcL _ _ _ hor).2.2.2.1
        · exact I.cf _ _ _ _ h
    refine hide fun GG hGG => ?_
    obtain ⟨o, fd, ho, hf⟩ := pre
    refine hGG ?_
    clear hGG GG
    refine callWith_function (o := o) (fd := fd) (evalArgs_sp hlone ?_)
    refine nxt (list_sound I args c h2) fun ws s₂ ρ₂ sm₂ p₂ hws S₂ => ?_
    have c₂ := c.next p₂ S₂
    exact ⟨⟨c₂.keep _ _ ho, hf⟩, lift sm₂ p₂ (key c₂ hws).2⟩
  · cases hu
    have hst : (args.map (cE m)).any isStar = false := by
      unfold okArgs at hok
      simp only at hok
      split at hok
      · cases hok
      · assumption
    have fl := noStar_flags (pos := pos) (env := env) I args h2 hst
    refine callWith_bi fl.1 (evalArgs_sp ?_ ?_)
    · intro q e
      have := fl.1
      rw [e] at this
      cases this
    · refine nxt (list_sound I args c h2) fun ws s₂ ρ₂ sm₂ p₂ hws S₂ => ?_
      exact lift sm₂ p₂ (builtin_sound S₂ h hws)
end
end Mine

namespace Mine
open PySem PySem.Calls PyProof.Rows PySem.W

noncomputable def Base.over (B : Base) (fp : List Addr) (h : Heap) : Base := fun b => if b ∈ fp then h.get? b else B b

structure It (prog : Program) (w : World) (B : Base) (items : List AV) (ρ : List Addr) (I : Addr) (fp wr : List Addr) (P : Nat → Value → Prop) (Stt : Nat → Heap → Prop) : Prop where
  W : ∀ A : Around, A.handled = none → Walks prog w A I fp wr items.length P Stt
  val : ∀ i v, P i v → ∃ a, items[i]? = some a ∧ VR ρ a v
  inn : ∀ i h, Stt i h → ∀ b ∈ fp, ∃ o, h.get? b = some o
  al : ∀ i h, Stt i h → ∀ b ∈ wr, ∃ o fs, h.get? b = some o ∧ o.data = .fields fs
  nb : ∀ b ∈ wr, B b = none
  go : ∀ (A : Around) i (s : Shared) v target (Q : Unit → Shared → Prop) (E : Value → Shared → Prop), Stt i s.heap → Q () s → wpAny (model prog w) A (letOwnedTupleGo target (.ref I) v) Q E s

noncomputable def Apart (ρ : List Addr) (H : Hp) (fp : List Addr) : Prop := ∀ (i : Nat) (a : Addr) (o : AObj), ρ[i]? = some a → H[i]? = some o → isMut o = true → a ∉ fp

noncomputable def Ready (prog : Program) (w : World) (B : Base) (ρ : List Addr) (s : Shared) (H₁ : Hp) (items : List AV) (it : Value) (s₂ : Shared) : Prop :=
  ∃ I fp wr P Stt ρ₂, it = .ref I ∧ It prog w B items ρ₂ I fp wr P Stt ∧ Stt 0 s₂.heap ∧ Same s s₂ ∧ ρ <+: ρ₂ ∧ St B ρ₂ H₁ s₂ ∧ Apart ρ₂ H₁ fp

section
variable {prog : Program} {w : World} {B : Base} {ρ : List Addr} {H : Hp} {s : Shared} {A : Around} {E : Value → Shared → Prop}

theorem go_plain {I : Addr} {o : Obj} {cls : String} {fs : Array Value} {v : Value} {target : PySem.Expr} {Q : Unit → Shared → Prop} (ho : s.heap.get? I = some o) (hc : o.cls = .type cls) (hd : o.data = .fields fs)
    (hn : (["enumerate", "zip", "dict_itemiterator", "dict_reverseitemiterator", "odict_iterator", "itertools.zip_longest", "itertools.pairwise"].contains cls) = false) (hQ : Q () s) : wpAny (model prog w) A (letOwnedTupleGo target (.ref I) v) Q E s := by
  have key : ∀ a, wpAny (model prog w) A (load I >>= fun o => match o.cls, o.data with
    | .type n, .fields vs => if (["enumerate", "zip", "dict_itemiterator", "dict_reverseitemiterator", "odict_iterator", "itertools.zip_longest", "itertools.pairwise"].contains n && vs[0]? == some (rawInt a)) = true then (do rule "for.unpacks-the-owned-tuple"; updateField I 0 .none) else pure ()
    | _, _ => pure ()) Q E s := by
    intro a
    refine wpAny_bind (wpAny_load ho ?_)
    rw [hc, hd]
    simp only [hn, Bool.false_and, Bool.false_eq_true, if_false]
    exact wpAny_pure hQ
  unfold letOwnedTupleGo
  split
  · cases v <;> first | exact wpAny_pure hQ | exact key _
  · cases v <;> first | exact wpAny_pure hQ | exact key _
  · exact wpAny_pure hQ

theorem ObjIs.noFields {h : Heap} {a : Addr} {o : AObj} {ob : Obj} {fs : Array Value} (x : ObjIs ρ h a o) (e : h.get? a = some ob) (hd : ob.data = .fields fs) : False := by
  cases o with
  | list xs => obtain ⟨_, vs, ⟨n, e'⟩, _⟩ := x; rw [e] at e'; cases e'; cases hd
  | flist xs => obtain ⟨_, vs, ⟨n, e'⟩, _⟩ := x; rw [e] at e'; cases e'; cases hd
  | tup xs => obtain ⟨_, vs, ⟨o', e', _, n, hd'⟩, _⟩ := x; rw [e] at e'; cases e'; rw [hd] at hd'; cases hd'
  | ns m => obtain ⟨f, ⟨o', es, ep, e', hd', _⟩, _⟩ := x; rw [e] at e'; cases e'; rw [hd] at hd'; cases hd'
  | cell c => obtain ⟨w', ⟨o', e', hd'⟩, _⟩ := x; rw [e] at e'; cases e'; rw [hd] at hd'; cases hd'

theorem St.over (S : St B ρ H s) {fp : List Addr} (ha : Apart ρ H fp) : St (B.over fp s.heap) ρ H s :=
  ⟨fun b o e => by
    unfold Base.over at e
    split at e
    · exact e
    · exact S.kept b o e, S.len, S.nodup, fun i a o e1 e2 hm => by
    unfold Base.over
    rw [if_neg (ha i a o e1 e2 hm)]
    exact S.own i a o e1 e2 hm, S.objs⟩
theorem St.unover {fp : List Addr} {h : Heap} (S : St (B.over fp h) ρ H s) (hin : ∀ b ∈ fp, ∃ o, h.get? b = some o) (hB : ∀ b o, B b = some o → b ∈ fp → h.get? b = some o) :
    St B ρ H s ∧ Apart ρ H fp ∧ ∀ b ∈ fp, ∀ o, h.get? b = some o → s.heap.get? b = some o := by
  have hap : Apart ρ H fp := by
    intro i a o e1 e2 hm hf
    have := S.own i a o e1 e2 hm
    unfold Base.over at this
    rw [if_pos hf] at this
    obtain ⟨o', ho'⟩ := hin a hf
    rw [this] at ho'; cases ho'
  refine ⟨⟨fun b o e => S.kept b o ?_, S.len, S.nodup, fun i a o e1 e2 hm => ?_, S.objs⟩, hap, fun b hb o e => S.kept b o ?_⟩
  · unfold Base.over
    split
    · rename_i hf; exact hB b o e hf
    · exact e
  · have := S.own i a o e1 e2 hm
    unfold Base.over at this
    rwa [if_neg (hap i a o e1 e2 hm)] at this
  · unfold Base.over
    rw [if_pos hb]; exact e

/-- an iterator steps on -/
theorem St.step (S : St B ρ H s) {wr : List Addr} {h' : Heap} (hk : ∀ b o, b ∉ wr → s.heap.get? b = some o → h'.get? b = some o) (hal : ∀ b ∈ wr, ∃ o fs, s.heap.get? b = some o ∧ o.data = .fields fs) (hnb : ∀ b ∈ wr, B b = none) (t : Nat) :
    St B ρ H { s with heap := h', toks := t } :=
  ⟨fun b o e => hk b o (fun hb => by rw [hnb b hb] at e; cases e) (S.kept b o e), S.len, S.nodup, S.own, fun i a o e1 e2 =>
    (S.objs i a o e1 e2).mono (List.prefix_refl _) fun ob e => hk a ob (fun hb => by
      obtain ⟨o', fs, h1, h2⟩ := hal a hb
      exact (S.objs i a o e1 e2).noFields h1 h2) e⟩

theorem Heap.IsListIter.ob {h : Heap} {a l : Addr} {i : Nat} (x : h.IsListIter a l i) : ∃ o, h.get? a = some o ∧ o.cls = .type "list_iterator" ∧ o.data = .fields #[.ref l, .int i 0] := x

theorem ready_list (S : St B ρ H s) {H₁ : Hp} {a : Addr} {xs : List AV} {vs : List Value} (S₁ : ∀ s', St B ρ H s' → St B ρ H₁ s') (hap : Apart ρ H₁ [a]) (hL : s.heap.IsList a vs.toArray) (hv : VRs ρ xs vs) :
    wpAny (model prog w) A (pyIter (.ref a)) (Ready prog w B ρ s H₁ xs) E s := by
  have hne : a ≠ s.heap.objs.size := fun e => by obtain ⟨o, ho, _⟩ := hL; exact Nat.lt_irrefl _ (e ▸ Heap.lt_size ho)
  have hlen := hv.length
  have kp := push_keeps s.heap { cls := .type "list_iterator", data := .fields #[.ref a, .int 0 0] }
  refine wpAny_pyIter_list hL ⟨s.heap.objs.size, [s.heap.objs.size, a], [s.heap.objs.size], fun i v => vs.toArray[i]? = some v, fun i h => h.IsListIter s.heap.objs.size a i ∧ h.IsList a vs.toArray, ρ, rfl, ⟨?_, ?_, ?_, ?_, ?_, ?_⟩, ⟨?_, ?_⟩, ⟨_, _, rfl⟩, List.prefix_refl _, ?_, ?_⟩
  · intro A hA
    have := Walks.list (prog := prog) (w := w) hA s.heap.objs.size a hne vs.toArray
    rwa [show vs.toArray.size = xs.length by simp [hlen]] at this
  · intro i v e
    exact hv.get' (by simpa using e)
  · intro i h st b hb
    simp at hb
    rcases hb with rfl | rfl
    · obtain ⟨o, ho, _⟩ := st.1; exact ⟨o, ho⟩
    · obtain ⟨o, ho, _⟩ := st.2; exact ⟨o, ho⟩
  · intro i h st b hb
    simp at hb; subst hb
    obtain ⟨o, ho, _, hd⟩ := st.1; exact ⟨o, _, ho, hd⟩
  · intro b hb
    simp at hb; subst hb
    exact S.fresh (Nat.le_refl _)
  · intro A i s' v target Q E st hQ
    obtain ⟨o, ho, hc, hd⟩ := st.1
    exact go_plain ho hc hd (by decide) hQ
  · exact ⟨_, Heap.get?_push_size _ rfl, rfl, rfl⟩
  · exact hL.push _
  · exact S₁ _ (S.grow kp s.toks)
  · intro i b o e1 e2 hm hb
    simp at hb
    rcases hb with rfl | rfl
    · exact Nat.lt_irrefl _ (S.lt e1)
    · exact hap i _ o e1 e2 hm (by simp)
theorem ready_tuple (S : St B ρ H s) {a : Addr} {xs : List AV} {vs : List Value} (hap : Apart ρ H [a]) (hL : s.heap.IsTuple a vs.toArray) (hv : VRs ρ xs vs) :
    wpAny (model prog w) A (pyIter (.ref a)) (Ready prog w B ρ s H xs) E s := by
  have hne : a ≠ s.heap.objs.size := fun e => by obtain ⟨o, ho, _⟩ := hL; exact Nat.lt_irrefl _ (e ▸ Heap.lt_size ho)
  have hlen := hv.length
  have kp := push_keeps s.heap { cls := .type "tuple_iterator", data := .fields #[.ref a, .int 0 0] }
  refine wpAny_pyIter_tuple hL ⟨s.heap.objs.size, [s.heap.objs.size, a], [s.heap.objs.size], fun i v => vs.toArray[i]? = some v, fun i h => h.IsTupleIter s.heap.objs.size a i ∧ h.IsTuple a vs.toArray, ρ, rfl, ⟨?_, ?_, ?_, ?_, ?_, ?_⟩, ⟨?_, ?_⟩, ⟨_, _, rfl⟩, List.prefix_refl _, ?_, ?_⟩
  · intro A hA
    have := Walks.tuple (prog := prog) (w := w) hA s.heap.objs.size a hne vs.toArray
    rwa [show vs.toArray.size = xs.length by simp [hlen]] at this
  · intro i v e
    exact hv.get' (by simpa using e)
  · intro i h st b hb
    simp at hb
    rcases hb with rfl | rfl
    · obtain ⟨o, ho, _⟩ := st.1; exact ⟨o, ho⟩
    · obtain ⟨o, ho, _⟩ := st.2; exact ⟨o, ho⟩
  · intro i h st b hb
    simp at hb; subst hb
    obtain ⟨o, ho, _, hd⟩ := st.1; exact ⟨o, _, ho, hd⟩
  · intro b hb
    simp at hb; subst hb
    exact S.fresh (Nat.le_refl _)
  · intro A i s' v target Q E st hQ
    obtain ⟨o, ho, hc, hd⟩ := st.1
    exact go_plain ho hc hd (by decide) hQ
  · exact ⟨_, Heap.get?_push_size _ rfl, rfl, rfl⟩
  · obtain ⟨o, ho, r⟩ := hL; exact ⟨o, Heap.get?_push_of_some _ ho, r⟩
  · exact S.grow kp s.toks
  · intro i b o e1 e2 hm hb
    simp at hb
    rcases hb with rfl | rfl
    · exact Nat.lt_irrefl _ (S.lt e1)
    · exact hap i _ o e1 e2 hm (by simp)
end
end Mine

namespace Mine
open PySem PySem.Calls PyProof.Rows PySem.W

section
variable {prog : Program} {w : World} {cx : Cx} {h₀ : Heap} {ih : Ev} {n m : Nat}
variable {B : Base} {ρ : List Addr} {H H' H₁ : Hp} {s : Shared} {ae : AEnv} {env : Env} {A : Around} {E : Value → Shared → Prop} {v : AV}

theorem rangeItems_length (a c : Int) : ∀ n, (rangeItems a c n).length = n := by
  intro n
  induction n generalizing a with
  | zero => rfl
  | succ n ih => simp [rangeItems, ih]
theorem rangeItems_get (c : Int) : ∀ (n : Nat) (a : Int) (i : Nat), i < n → (rangeItems a c n)[i]? = some (.int (a + i * c))
  | 0, _, _, h => by omega
  | n + 1, a, 0, _ => by simp [rangeItems]
  | n + 1, a, i + 1, h => by
    simp only [rangeItems, List.getElem?_cons_succ]
    rw [rangeItems_get c n (a + c) i (by omega)]
    congr 2
    push_cast
    rw [Int.add_mul, Int.one_mul]; omega
theorem okI_le {i : Int} (h : okI i = true) : -1048576 ≤ i ∧ i ≤ 1048576 := by
  unfold okI at h
  split at h
  · have := Nat.le_of_ble_eq_true h
    rename_i k
    show -1048576 ≤ ((k : Nat) : Int) ∧ ((k : Nat) : Int) ≤ _
    omega
  · have := Nat.le_of_ble_eq_true h
    rename_i k
    have e : Int.negSucc k = -((k : Int) + 1) := rfl
    rw [e]; omega

theorem abs_small {a b : Int} (ha : -1048576 ≤ a ∧ a ≤ 1048576) (hb : -1048576 ≤ b ∧ b ≤ 1048576) : (b - a).natAbs < 1073741824 := by omega
theorem toNat_small {a b : Int} (ha : -1048576 ≤ a ∧ a ≤ 1048576) (hb : -1048576 ≤ b ∧ b ≤ 1048576) : (b - a).toNat ≤ 2097152 := by omega
theorem size_up (a b : Int) : Builtin.Range.rangeSize a b 1 = (((b - a).toNat : Nat) : Int) := by
  unfold Builtin.Range.rangeSize
  simp
  split <;> omega
theorem size_down (a b : Int) : Builtin.Range.rangeSize a b (-1) = (((a - b).toNat : Nat) : Int) := by
  unfold Builtin.Range.rangeSize
  simp
  split <;> omega

/-- a range is gone through -/
theorem ready_range (S : St B ρ H s) {a b c : Int} {t u z : Tok} {tk : Nat} {xs : List AV} (h : rangeOf a b c = some xs) :
    c ≠ 0 ∧ (b - a).natAbs < 1073741824 ∧ c.natAbs < 1073741824 ∧ wpAny (model prog w) A (pyIter (.ref s.heap.objs.size)) (Ready prog w B ρ s H xs) E { s with heap := s.heap.push { cls := .type "range", data := .fields #[.int a t, .int b u, .int c z] }, toks := tk } := by
  refine ooT h fun hab h => ?_
  rw [Bool.and_eq_true] at hab
  have ha := okI_le hab.1
  have hb := okI_le hab.2
  have key : ∀ n : Nat, (c = 1 ∨ c = -1) → Builtin.Range.rangeSize a b c = (n : Int) → n ≤ 2097152 → xs = rangeItems a c n →
      wpAny (model prog w) A (pyIter (.ref s.heap.objs.size)) (Ready prog w B ρ s H xs) E { s with heap := s.heap.push { cls := .type "range", data := .fields #[.int a t, .int b u, .int c z] }, toks := tk } := by
    intro n hc hsz hn hxs
    subst hxs
    have k1 := push_keeps s.heap { cls := .type "range", data := .fields #[.int a t, .int b u, .int c z] }
    generalize hh : s.heap.push { cls := .type "range", data := .fields #[.int a t, .int b u, .int c z] } = h₁ at k1 ⊢
    have hr : IsRange h₁ s.heap.objs.size a b c t u z := by rw [← hh]; exact Heap.get?_push_size _ rfl
    have hs1 : h₁.objs.size = s.heap.objs.size + 1 := by rw [← hh, Heap.size_push]
    have k2 := push_keeps h₁ { cls := .type "range_iterator", data := .fields #[rawInt a, rawInt (Builtin.Range.rangeSize a b c), rawInt c] }
    have kk : ∀ b' o, s.heap.get? b' = some o → (h₁.push { cls := .type "range_iterator", data := .fields #[rawInt a, rawInt (Builtin.Range.rangeSize a b c), rawInt c] }).get? b' = some o := fun b' o e => k2 b' o (k1 b' o e)
    have S2 := S.grow k1 tk
    refine wpAny_pyIter_range hr ?_ ⟨h₁.objs.size, [h₁.objs.size], [h₁.objs.size], fun i v => ∃ t, v = .int (a + i * c) t ∧ i < n, fun i h => IsRangeIter h h₁.objs.size (a + (i : Nat) * c) ((n : Int) - (i : Nat)) c, ρ, rfl, ⟨?_, ?_, ?_, ?_, ?_, ?_⟩, ?_, ⟨_, _, rfl⟩, List.prefix_refl _, ?_, ?_⟩
    · unfold Builtin.Range.small
      rw [hsz]
      simp only [Builtin.Range.rangeFitsLong]
      rcases hc with rfl | rfl <;> simp <;> omega
    · intro A hA
      rw [rangeItems_length]
      have W := Walks.range (prog := prog) (w := w) hA h₁.objs.size a c n
      exact ⟨W.sub, W.frame, fun i s Q E hi st hQ => W.item i s Q E hi st fun v h' tk' ⟨t, e⟩ => hQ v h' tk' ⟨t, e, hi⟩, W.done, W.self⟩
    · rintro i v ⟨t, rfl, hi⟩
      exact ⟨_, rangeItems_get c n a i hi, t, rfl⟩
    · intro i h st b hb
      simp at hb; subst hb
      exact ⟨_, st⟩
    · intro i h st b hb
      simp at hb; subst hb
      exact ⟨_, _, st, rfl⟩
    · intro b hb
      simp at hb; subst hb
      exact S2.fresh (Nat.le_refl _)
    · intro A i s' v target Q E st hQ
      exact go_plain st rfl rfl (by decide) hQ
    · show IsRangeIter (h₁.push _) _ _ _ _
      rw [hsz]
      have := Heap.get?_push_size h₁ (o := { cls := .type "range_iterator", data := .fields #[rawInt a, rawInt (n : Int), rawInt c] }) rfl
      simpa using this
    · exact S.grow kk tk
    · intro i b' o e1 e2 hm hb'
      simp at hb'
      subst hb'
      exact Nat.lt_irrefl _ (S2.lt e1)
  clear hab
  by_cases h1 : c = 1
  · subst h1
    cases h
    exact ⟨by decide, abs_small ha hb, by decide, key _ (.inl rfl) (size_up a b) (toNat_small ha hb) rfl⟩
  · have h : (match decide (c = 1) with | true => some (rangeItems a 1 (b - a).toNat) | false => match decide (c = -1) with | true => some (rangeItems a (-1) (a - b).toNat) | false => none) = some xs := h
    rw [decide_eq_false h1] at h
    refine ooT h fun h2 h => ?_
    have h2 := of_decide_eq_true h2
    subst h2
    cases h
    exact ⟨by decide, abs_small ha hb, by decide, key _ (.inr rfl) (size_down a b) (toNat_small hb ha) rfl⟩

theorem rangeArgs_sound (S : St B ρ H s) {vs xs : List AV} {ws : List Value} (h : rangeArgs vs = some xs) (hv : VRs ρ vs ws) :
    wpAny (model prog w) A (call (.type "range") ws) (fun x s₁ => wpAny (model prog w) A (pyIter x) (Ready prog w B ρ s H xs) E s₁) E s := by
  have h : (match one? vs with | some y => (match int? y with | some b => rangeOf 0 b 1 | none => none) | none => match pair? vs with | some (x, y) => range2 x y 1 | none => range3 vs) = some xs := h
  cases h1 : one? vs with
  | some y =>
    rw [h1] at h
    refine ooInt h fun b hb h => ?_
    rw [one?_some h1, int?_some hb] at hv
    obtain ⟨x, rfl, t, rfl⟩ := hv.one
    obtain ⟨_, _, _, hr⟩ := ready_range (prog := prog) (w := w) (A := A) (E := E) (t := s.toks) (u := t) (z := s.toks + 1) (tk := s.toks + 1 + 1) S h
    exact call_range_1 hr
  | none => cases h2 : pair? vs with
    | some q =>
      obtain ⟨x, y⟩ := q
      rw [h1, h2] at h
      refine ooInt (show range2 x y 1 = _ from h) fun a ha h => ooInt h fun b hb h => ?_
      rw [pair?_some h2, int?_some ha, int?_some hb] at hv
      obtain ⟨x, y, rfl, ⟨t, rfl⟩, u, rfl⟩ := hv.two
      obtain ⟨_, _, _, hr⟩ := ready_range (prog := prog) (w := w) (A := A) (E := E) (t := t) (u := u) (z := s.toks) (tk := s.toks + 1) S h
      exact call_range_2 hr
    | none =>
      rw [h1, h2] at h
      refine ooAV (show range3 vs = _ from h) fun z hz h => ooPr h fun x y hp h => ooInt h fun c hc h => ooT h fun he h => ooInt h fun a ha h => ooInt h fun b hb hfin => ?_
      clear h h1 h2
      match vs, hv, hz, hp, he with
      | x :: y :: z' :: r, hv, hz, hp, he =>
        cases hp
        cases hz
        have he := List.isEmpty_iff.mp he
        have he : r = [] := he
        subst he
        rw [int?_some ha, int?_some hb, int?_some hc] at hv
        cases ws with
        | nil => exact hv.elim
        | cons x1 ws =>
          obtain ⟨t, rfl⟩ := hv.1
          obtain ⟨y1, z1, rfl, ⟨u, rfl⟩, q, rfl⟩ := VRs.two hv.2
          obtain ⟨h1, h2, h3, hr⟩ := ready_range (prog := prog) (w := w) (A := A) (E := E) (t := t) (u := u) (z := q) (tk := s.toks) S hfin
          exact call_range_3 h1 hr (.inl (PyProof.noPylong_small h3))

theorem St.set (S : St B ρ H s) {k : Nat} {o o' : AObj} (e : H[k]? = some o) (hm : isMut o' = true → isMut o = true) (ho : ∀ a, ObjIs ρ s.heap a o → ObjIs ρ s.heap a o') : St B ρ (H.set k o') s := by
  refine ⟨S.kept, by rw [List.length_set]; exact S.len, S.nodup, fun i a o2 e1 e2 h2 => ?_, fun i a o2 e1 e2 => ?_⟩
  · by_cases hi : i = k
    · subst hi
      rw [List.getElem?_set_self (List.getElem?_eq_some_iff.mp e).1] at e2
      cases e2
      exact S.own i a o e1 e (hm h2)
    · rw [List.getElem?_set_ne (Ne.symm hi)] at e2; exact S.own i a o2 e1 e2 h2
  · by_cases hi : i = k
    · subst hi
      rw [List.getElem?_set_self (List.getElem?_eq_some_iff.mp e).1] at e2
      cases e2
      exact ho a (S.objs i a o e1 e)
    · rw [List.getElem?_set_ne (Ne.symm hi)] at e2; exact S.objs i a o2 e1 e2

/-- what a thaw leans on -/
noncomputable def Thawed (B : Base) (ρ : List Addr) (fr : Option Nat) : Prop := ∀ k, fr = some k → ∃ a, ρ[k]? = some a ∧ B a = none
theorem thaw_sound (S : St B ρ H s) {fr : Option Nat} (h : thaw H fr = some H') (ht : Thawed B ρ fr) : St B ρ H' s := by
  unfold thaw at h
  split at h
  · cases h; exact S
  · rename_i k
    refine ooFlist h ?_
    clear h; intros; rename_i xs e h
    cases h
    obtain ⟨a, ha, hb⟩ := ht k rfl
    refine ⟨S.kept, by rw [List.length_set]; exact S.len, S.nodup, fun i a2 o2 e1 e2 h2 => ?_, fun i a2 o2 e1 e2 => ?_⟩
    · by_cases hi : i = k
      · subst hi; rw [ha] at e1; cases e1; exact hb
      · rw [List.getElem?_set_ne (Ne.symm hi)] at e2; exact S.own i a2 o2 e1 e2 h2
    · by_cases hi : i = k
      · subst hi
        rw [List.getElem?_set_self (List.getElem?_eq_some_iff.mp e).1] at e2
        cases e2
        have := S.objs i a2 _ e1 e
        exact this
      · rw [List.getElem?_set_ne (Ne.symm hi)] at e2; exact S.objs i a2 o2 e1 e2
theorem Thawed.mono {ρ' : List Addr} {fr : Option Nat} (p : ρ <+: ρ') (h : Thawed B ρ fr) : Thawed B ρ' fr := fun k e => let ⟨a, x, y⟩ := h k e; ⟨a, get_pre p x, y⟩

theorem freeze_sound (G : Gd prog w cx h₀) (hB : ∀ b o, h₀.get? b = some o → B b = some o) (S : St B ρ H s) {xs : List AV} {fr : Option Nat} {x : Value} (h : freeze cx H v = some (xs, fr, H₁)) (hx : VR ρ v x) :
    Thawed B ρ fr ∧ wpAny (model prog w) A (pyIter x) (Ready prog w B ρ s H₁ xs) E s := by
  cases v with
  | obj k =>
    obtain ⟨a, ha, rfl⟩ := hx
    refine ooSeq (show frzO H k = _ from h) ?_ ?_ ?_
    · clear h; intros; rename_i ys e h
      cases h
      obtain ⟨a', ha', z, vs, hl, hv⟩ := S.addr e
      rw [ha] at ha'; cases ha'
      refine ⟨(fun k' e' => by cases e'; exact ⟨a, ha, S.own k a _ ha e rfl⟩), ready_list S (fun s' S' => S'.set (o' := .flist xs) e (fun h => by cases h) fun _ x => x) ?_ hl.isList hv⟩
      intro i b o e1 e2 hm hb
      simp at hb; subst hb
      have := S.inj e1 ha; subst this
      rw [List.getElem?_set_self (List.getElem?_eq_some_iff.mp e).1] at e2
      cases e2; cases hm
    · clear h; intros; rename_i ys e h
      cases h
      obtain ⟨a', ha', z, vs, hl, hv⟩ := S.addr e
      rw [ha] at ha'; cases ha'
      refine ⟨(fun k' e' => by cases e'), ready_list S (fun s' S' => S') ?_ hl.isList hv⟩
      intro i b o e1 e2 hm hb
      simp at hb; subst hb
      have := S.inj e1 ha; subst this
      rw [e] at e2; cases e2; cases hm
    · clear h; intros; rename_i ys e h
      cases h
      obtain ⟨a', ha', z, vs, hl, hv⟩ := S.addr e
      rw [ha] at ha'; cases ha'
      refine ⟨(fun k' e' => by cases e'), ready_tuple S ?_ hl hv⟩
      intro i b o e1 e2 hm hb
      simp at hb; subst hb
      have := S.inj e1 ha; subst this
      rw [e] at e2; cases e2; cases hm
  | gref a =>
    cases hx
    refine ooLA (show frzG cx H a = _ from h) ?_
    clear h; intros; rename_i ys e h
    cases h
    obtain ⟨z, himm, vs, ht, hv⟩ := G.gtup _ _ e
    obtain ⟨o, ho, r⟩ := ht
    refine ⟨(fun k' e' => by cases e'), ready_tuple S ?_ ⟨o, S.kept _ _ (hB _ _ ho), r⟩ (hv.mono List.nil_prefix)⟩
    intro i b o' e1 e2 hm hb
    simp at hb; subst hb
    have := S.own i _ o' e1 e2 hm
    rw [hB _ _ ho] at this; cases this
  | _ => exact ooNo h
end
end Mine

namespace Mine
open PySem PySem.Calls PyProof.Rows PySem.W

section
variable {prog : Program} {w : World} {cx : Cx} {h₀ : Heap} {ih : Ev} {n m : Nat}
variable {B : Base} {ρ : List Addr} {H H' H₁ : Hp} {s : Shared} {ae : AEnv} {env : Env} {A : Around} {E : Value → Shared → Prop} {v : AV}

/-! what is forgotten -/
theorem prefix_take {ρ ρ' : List Addr} (p : ρ <+: ρ') : ρ'.take ρ.length = ρ := by
  obtain ⟨t, rfl⟩ := p; simp
theorem ObjIs.imm {ρ ρ' : List Addr} {h : Heap} {a : Addr} {xs : List AV} (hx : xs.any isObj = false) : (ObjIs ρ h a (.list xs) → ObjIs ρ' h a (.list xs)) ∧ (ObjIs ρ h a (.tup xs) → ObjIs ρ' h a (.tup xs)) :=
  ⟨fun ⟨z, vs, l, r⟩ => ⟨z, vs, l, r.imm hx⟩, fun ⟨z, vs, l, r⟩ => ⟨z, vs, l, r.imm hx⟩⟩

theorem VR.low {ρ ρ' : List Addr} (p : ρ <+: ρ') {v : AV} {x : Value} (h : Mine.low ρ.length v = true) (hx : VR ρ' v x) : VR ρ v x := by
  cases v with
  | obj k =>
    obtain ⟨a, e, rfl⟩ := hx
    have hk : k < ρ.length := by
      have : Nat.blt k ρ.length = true := h
      exact Nat.le_of_ble_eq_true this
    obtain ⟨t, rfl⟩ := p
    rw [List.getElem?_append_left hk] at e
    exact ⟨a, e, rfl⟩
  | _ => exact hx.imm rfl
theorem VRs.low {ρ ρ' : List Addr} (p : ρ <+: ρ') : ∀ {xs : List AV} {vs : List Value}, xs.all (Mine.low ρ.length) = true → VRs ρ' xs vs → VRs ρ xs vs
  | [], [], _, _ => trivial
  | x :: xs, _ :: _, h, ⟨h1, h2⟩ => by
    rw [List.all_cons, Bool.and_eq_true] at h
    exact ⟨h1.low p h.1, h2.low p h.2⟩
theorem lkp_all {α : Type} {f : Str × α → Bool} : ∀ {m : List (Str × α)} {x : Str} {v : α}, m.all f = true → lkp x m = some v → ∃ y, f (y, v) = true
  | [], _, _, _, h => by cases h
  | (y, u) :: r, x, v, ha, h => by
    rw [List.all_cons, Bool.and_eq_true] at ha
    unfold lkp at h
    split at h
    · cases h; exact ⟨y, ha.1⟩
    · exact lkp_all ha.2 h
theorem ObjIs.low {ρ ρ' : List Addr} (p : ρ <+: ρ') {h : Heap} {a : Addr} {o : AObj} (hl : lowO ρ.length o = true) (x : ObjIs ρ' h a o) : ObjIs ρ h a o := by
  cases o with
  | list xs => obtain ⟨z, vs, l, r⟩ := x; exact ⟨z, vs, l, r.low p hl⟩
  | flist xs => obtain ⟨z, vs, l, r⟩ := x; exact ⟨z, vs, l, r.low p hl⟩
  | tup xs => obtain ⟨z, vs, l, r⟩ := x; exact ⟨z, vs, l, r.low p hl⟩
  | ns m =>
    obtain ⟨f, hn, hf⟩ := x
    refine ⟨f, hn, fun y u e => ?_⟩
    obtain ⟨u', e', r⟩ := hf y u e
    obtain ⟨_, q⟩ := lkp_all hl e
    exact ⟨u', e', r.low p q⟩
  | cell c =>
    obtain ⟨cw, hn, hf⟩ := x
    refine ⟨cw, hn, fun u e => ?_⟩
    obtain ⟨u', e', r⟩ := hf u e
    subst e
    exact ⟨u', e', r.low p hl⟩

theorem St.cutTo {ρ ρ' : List Addr} (p : ρ <+: ρ') (S : St B ρ' H s) (hl : (H.take ρ.length).all (lowO ρ.length) = true) : St B ρ (H.take ρ.length) s := by
  have hle : ρ.length ≤ H.length := by rw [← S.len]; exact p.length_le
  refine ⟨S.kept, by rw [List.length_take]; omega, List.Nodup.sublist p.sublist S.nodup, fun i a o e1 e2 hm => ?_, fun i a o e1 e2 => ?_⟩
  · have hi := (List.getElem?_eq_some_iff.mp e1).1
    rw [List.getElem?_take_of_lt hi] at e2
    exact S.own i a o (get_pre p e1) e2 hm
  · have hi := (List.getElem?_eq_some_iff.mp e1).1
    have hmem : o ∈ H.take ρ.length := List.mem_of_getElem? e2
    rw [List.getElem?_take_of_lt hi] at e2
    exact (S.objs i a o (get_pre p e1) e2).low p (List.all_eq_true.mp hl o hmem)
theorem sweep_sound {ρ ρ' : List Addr} (p : ρ <+: ρ') (S : St B ρ' H s) {x : Value} (hx : VR ρ' v x) : ∃ ρ'', ρ <+: ρ'' ∧ VR ρ'' (sweep ρ.length v H).1 x ∧ St B ρ'' (sweep ρ.length v H).2 s := by
  have stay : ∃ ρ'', ρ <+: ρ'' ∧ VR ρ'' v x ∧ St B ρ'' H s := ⟨ρ', p, hx, S⟩
  unfold sweep
  cases hl : (H.take ρ.length).all (lowO ρ.length) with
  | false => exact stay
  | true =>
    have C := S.cutTo p hl
    cases v with
    | obj k =>
      simp only
      cases hk : Nat.ble ρ.length k with
      | false =>
        have hlt : k < ρ.length := Nat.lt_of_not_le fun q => by rw [Nat.ble_eq_true_of_le q] at hk; cases hk
        exact ⟨ρ, List.prefix_refl _, VR.low p (v := .obj k) (Nat.ble_eq_true_of_le hlt) hx, C⟩
      | true =>
        have hge : ρ.length ≤ k := Nat.le_of_ble_eq_true hk
        obtain ⟨a, ha, rfl⟩ := hx
        have hna : a ∉ ρ := by
          intro hm
          obtain ⟨j, hj, e⟩ := List.mem_iff_getElem.mp hm
          have := S.inj (get_pre p (List.getElem?_eq_getElem hj)) (e ▸ ha)
          omega
        have hlen : ρ.length = (H.take ρ.length).length := C.len
        have build : ∀ o : AObj, ObjIs (ρ ++ [a]) s.heap a o → (isMut o = true → B a = none) → ∃ ρ'', ρ <+: ρ'' ∧ VR ρ'' (.obj ρ.length) (.ref a) ∧ St B ρ'' (H.take ρ.length ++ [o]) s := by
          intro o ho hm
          refine ⟨ρ ++ [a], List.prefix_append .., ⟨a, by simp, rfl⟩, C.kept, by rw [List.length_append, List.length_append, ← hlen]; rfl, ?_, ?_, ?_⟩
          · rw [List.nodup_append]
            exact ⟨C.nodup, by simp, fun x hx y hy e => by rw [List.mem_singleton.mp hy] at e; exact hna (e ▸ hx)⟩
          · intro i b o' e1 e2 h2
            by_cases hi : i < ρ.length
            · rw [List.getElem?_append_left hi] at e1
              rw [List.getElem?_append_left (by rw [← hlen]; exact hi)] at e2
              exact C.own i b o' e1 e2 h2
            · rw [List.getElem?_append_right (Nat.le_of_not_lt hi)] at e1
              rw [List.getElem?_append_right (by rw [← hlen]; exact Nat.le_of_not_lt hi), ← hlen] at e2
              cases hd : i - ρ.length with
              | zero => rw [hd] at e1 e2; simp at e1 e2; subst e1 e2; exact hm h2
              | succ n => rw [hd] at e1; simp at e1
          · intro i b o' e1 e2
            by_cases hi : i < ρ.length
            · rw [List.getElem?_append_left hi] at e1
              rw [List.getElem?_append_left (by rw [← hlen]; exact hi)] at e2
              exact (C.objs i b o' e1 e2).mono (List.prefix_append ..) fun _ e => e
            · rw [List.getElem?_append_right (Nat.le_of_not_lt hi)] at e1
              rw [List.getElem?_append_right (by rw [← hlen]; exact Nat.le_of_not_lt hi), ← hlen] at e2
              cases hd : i - ρ.length with
              | zero => rw [hd] at e1 e2; simp at e1 e2; subst e1 e2; exact ho
              | succ n => rw [hd] at e1; simp at e1
        simp only
        cases hH : H[k]? with
        | none => exact ⟨ρ', p, ⟨a, ha, rfl⟩, S⟩
        | some o =>
          have hO := S.objs k a o ha hH
          cases o with
          | list xs =>
            simp only
            cases hx : xs.any isObj with
            | true => exact ⟨ρ', p, ⟨a, ha, rfl⟩, S⟩
            | false => exact build _ ((ObjIs.imm hx).1 hO) (fun _ => S.own k a _ ha hH rfl)
          | tup xs =>
            simp only
            cases hx : xs.any isObj with
            | true => exact ⟨ρ', p, ⟨a, ha, rfl⟩, S⟩
            | false => exact build _ ((ObjIs.imm hx).2 hO) (fun h => by cases h)
          | _ => exact ⟨ρ', p, ⟨a, ha, rfl⟩, S⟩
    | _ => exact ⟨ρ, List.prefix_refl _, hx.imm rfl, C⟩
end
end Mine

namespace Mine
open PySem PySem.Calls PyProof.Rows PySem.W

section
variable {prog : Program} {w : World} {cx : Cx} {h₀ : Heap} {ih : Ev} {n m : Nat}
variable {B : Base} {ρ : List Addr} {H H' H₁ : Hp} {s : Shared} {ae : AEnv} {env : Env} {A : Around} {E : Value → Shared → Prop} {v : AV}

/-! cells -/
noncomputable def CRel (ρ : List Addr) (cs : List (Str × Nat)) (acc : List (Str × Addr)) : Prop := ∀ x k, lkp x cs = some k → ∃ a, acc.lookup x = some a ∧ ρ[k]? = some a
theorem CRel.mono {ρ ρ' : List Addr} (p : ρ <+: ρ') {cs : List (Str × Nat)} {acc : List (Str × Addr)} (h : CRel ρ cs acc) : CRel ρ' cs acc := fun x k e => let ⟨a, e1, e2⟩ := h x k e; ⟨a, e1, get_pre p e2⟩
theorem lkp_app {α : Type} (x : Str) : ∀ (l r : List (Str × α)), lkp x (l ++ r) = (lkp x l).or (lkp x r)
  | [], r => by simp [lkp]
  | (y, v) :: l, r => by
    simp only [List.cons_append, lkp]
    cases seq x y with
    | true => rfl
    | false => exact lkp_app x l r
theorem nodupN_cons {x : Str} {k : NameKind} {r : List (Str × NameKind)} (h : nodupN ((x, k) :: r) = true) : lkp x r = none ∧ nodupN r = true := by
  unfold nodupN at h
  split at h
  · cases h
  · exact ⟨by assumption, h⟩
theorem cellsAt_none {x : Str} : ∀ {r : List (Str × NameKind)} {n : Nat}, lkp x r = none → lkp x (cellsAt n r) = none
  | [], _, _ => rfl
  | (y, k) :: r, n, h => by
    unfold lkp at h
    split at h
    · cases h
    · rename_i hs
      have ih := fun n => cellsAt_none (r := r) (n := n) h
      cases k <;> simp only [cellsAt]
      case cell => simp only [lkp, hs]; exact ih (n + 1)
      all_goals exact ih n

theorem cells_st : ∀ (names : List (Str × NameKind)) (acc : List (Str × Addr)) (cs : List (Str × Nat)) {ρ : List Addr} {H : Hp} {s : Shared}, nodupN names = true → St B ρ H s → CRel ρ cs acc →
    ∃ ρ', ρ <+: ρ' ∧ St B ρ' (H ++ (cellsAt H.length names).map fun _ => .cell none) { s with heap := pushCells s.heap names } ∧ CRel ρ' (cellsAt H.length names ++ cs) (cellsFrom s.heap.objs.size names acc)
  | [], acc, cs, ρ, H, s, _, S, hc => ⟨ρ, List.prefix_refl _, by simpa [cellsAt, pushCells] using S, hc⟩
  | (x, k) :: r, acc, cs, ρ, H, s, hn, S, hc => by
    obtain ⟨h1, h2⟩ := nodupN_cons hn
    by_cases hk : k = .cell
    · subst hk
      have S1 := S.add (o := .cell none) (h' := s.heap.push { cls := .type "cell", data := .cell none }) (push_keeps _ _) (Nat.le_refl _) (fun _ => S.fresh (Nat.le_refl _))
        ⟨none, ⟨_, Heap.get?_push_size _ rfl, rfl⟩, fun v e => by cases e⟩ s.toks
      have hc1 : CRel (ρ ++ [s.heap.objs.size]) ((x, H.length) :: cs) ((x, s.heap.objs.size) :: acc) := by
        intro y k e
        simp only [lkp] at e
        split at e
        · rename_i hs
          cases e
          have := seq_iff.mp hs; subst this
          exact ⟨s.heap.objs.size, by simp, by rw [← S.len]; simp⟩
        · rename_i hs
          obtain ⟨a, e1, e2⟩ := hc y k e
          refine ⟨a, ?_, get_pre (List.prefix_append ..) e2⟩
          rw [List.lookup_cons, show (y == x) = false from beq_eq_false_iff_ne.mpr (seq_false.mp hs)]
          exact e1
      obtain ⟨ρ', p, S', c'⟩ := cells_st r _ _ h2 S1 hc1
      refine ⟨ρ', (List.prefix_append ..).trans p, ?_, ?_⟩
      · have e : pushCells s.heap ((x, .cell) :: r) = pushCells (s.heap.push { cls := .type "cell", data := .cell none }) r := rfl
        rw [e]
        have e2 : (H ++ (cellsAt H.length ((x, .cell) :: r)).map fun _ => AObj.cell none) = (H ++ [.cell none]) ++ (cellsAt (H ++ [AObj.cell none]).length r).map fun _ => .cell none := by simp [cellsAt]
        rw [e2]
        exact S'
      · have e : cellsFrom s.heap.objs.size ((x, .cell) :: r) acc = cellsFrom (s.heap.objs.size + 1) r ((x, s.heap.objs.size) :: acc) := rfl
        have hsz : (s.heap.push { cls := .type "cell", data := .cell none }).objs.size = s.heap.objs.size + 1 := Heap.size_push ..
        rw [e]
        have c2 : CRel ρ' (cellsAt (H.length + 1) r ++ (x, H.length) :: cs) (cellsFrom (s.heap.objs.size + 1) r ((x, s.heap.objs.size) :: acc)) := by
          have := c'
          simp only [hsz, List.length_append, List.length_singleton] at this
          exact this
        intro y k e'
        apply c2
        rw [lkp_app]
        rw [show cellsAt H.length ((x, .cell) :: r) = (x, H.length) :: cellsAt (H.length + 1) r from rfl, List.cons_append] at e'
        simp only [lkp] at e' ⊢
        cases hs : seq y x with
        | true =>
          simp only [hs] at e'
          have := seq_iff.mp hs; subst this
          rw [cellsAt_none h1]
          simpa using e'
        | false => simp only [hs] at e'; rw [lkp_app] at e'; exact e'
    · have e1 : cellsAt H.length ((x, k) :: r) = cellsAt H.length r := by cases k <;> first | rfl | exact absurd rfl hk
      have hkb : (k == NameKind.cell) = false := by cases k <;> first | rfl | exact absurd rfl hk
      have e2 : pushCells s.heap ((x, k) :: r) = pushCells s.heap r := by show (if (k == NameKind.cell) = true then _ else _) = _; rw [hkb]; rfl
      have e3 : cellsFrom s.heap.objs.size ((x, k) :: r) acc = cellsFrom s.heap.objs.size r acc := by show (if (k == NameKind.cell) = true then _ else _) = _; rw [hkb]; rfl
      rw [e1, e2, e3]
      exact cells_st r acc cs h2 S hc

theorem binds_sound {f : Str × Value → PUnit → Sem (ForInStep PUnit)} (hf : ∀ n v u, f (n, v) u = (do storeName env n v; pure (.yield ⟨⟩))) : ∀ (ab : List (Str × AV)) (cb : List (Str × Value)) {ρ : List Addr} {H : Hp} {s : Shared}, bindParams ae H ab = some H' →
    (ab.map (·.1) = cb.map (·.1)) → VRs ρ (ab.map (·.2)) (cb.map (·.2)) → EnvOk ρ ae env → St B ρ H s →
    wpAny (model prog w) A (forIn cb ⟨⟩ f) (fun _ s' => Same s s' ∧ St B ρ H' s') E s
  | [], [], ρ, H, s, h, _, _, _, S => by
    cases h
    rw [List.forIn_nil]; exact wpAny_pure ⟨Same.refl _, S⟩
  | (x, a) :: ab, (y, u) :: cb, ρ, H, s, h, hn, hv, V, S => by
    simp only [List.map_cons, List.cons.injEq] at hn
    obtain ⟨h1, h2⟩ := hn
    subst h1
    refine ooHp h ?_
    clear h; intros; rename_i H1 e h
    rw [List.forIn_cons, hf]
    refine wpAny_bind (wpAny_bind (wrVar_sound e V S hv.1 fun s' sm S' => wpAny_pure ?_))
    exact wpAny_mono (binds_sound hf ab cb h h2 hv.2 V S') (fun _ s'' q => ⟨sm.trans q.1, q.2⟩) fun _ _ e => e
  | [], _ :: _, _, _, _, _, hn, _, _, _ => by simp at hn
  | _ :: _, [], _, _, _, _, hn, _, _, _ => by simp at hn

/-- a new block's environment -/
theorem newEnv_sound {scope : Scope} {globals : Addr} {cl : List (Str × Addr)} {cb : List (Str × Value)} {qual : Str} {func : Option Addr} {code : Value} {around : Option Env} {bn : Addr} {cs : List (Str × Nat)} {ab : List (Str × AV)}
    (hk : scope.kind = .function) (hn : nodupN scope.names = true) (hg : globals = mainGlobals) (hb : (match around with | some o => o.builtins | none => bn) = builtinsNs) (hc : CRel ρ cs cl) (S : St B ρ H s)
    (h : bindParams ⟨scope.names, H.length, cellsAt (H.length + 1) scope.names ++ cs⟩ (H ++ (.ns [] :: (cellsAt (H.length + 1) scope.names).map fun _ => .cell none)) ab = some H')
    (he : ab.map (·.1) = cb.map (·.1)) (hv : VRs ρ (ab.map (·.2)) (cb.map (·.2))) :
    wpAny (model prog w) A (newFunctionEnv scope globals cl cb qual func code around bn) (fun env' s' => Same s s' ∧ env'.scope = scope ∧ ∃ ρ', ρ <+: ρ' ∧ EnvOk ρ' ⟨scope.names, H.length, cellsAt (H.length + 1) scope.names ++ cs⟩ env' ∧ St B ρ' H' s' ∧ env'.locals = s.heap.objs.size) E s := by
  have go : ∀ (cls : Value), wpAny (model prog w) A (do
      let locals ← alloc { cls := cls, data := .dict #[] }
      let cells ← forIn scope.names cl (fun (x : Str × NameKind) (cells : List (Str × Addr)) => if x.2 == .cell then (do let a ← alloc { cls := .type "cell", data := .cell none }; pure (ForInStep.yield ((x.1, a) :: cells))) else pure (.yield cells))
      let env : Env := newEnv scope locals globals cells qual func code around bn
      let _ ← forIn cb (⟨⟩ : PUnit) (fun (x : Str × Value) _ => do storeName env x.1 x.2; pure (.yield ⟨⟩))
      pure env) (fun env' s' => Same s s' ∧ env'.scope = scope ∧ ∃ ρ', ρ <+: ρ' ∧ EnvOk ρ' ⟨scope.names, H.length, cellsAt (H.length + 1) scope.names ++ cs⟩ env' ∧ St B ρ' H' s' ∧ env'.locals = s.heap.objs.size) E s := by
    intro cls
    refine wpAny_bind (wpAny_alloc ?_)
    have S1 := S.add (o := .ns []) (h' := s.heap.push { cls := cls, data := .dict #[] }) (push_keeps _ _) (Nat.le_refl _) (fun _ => S.fresh (Nat.le_refl _))
      ⟨fun _ => none, Heap.Ns.new s.heap cls, fun x v e => by cases e⟩ s.toks
    refine wpAny_bind (wpAny_layCells _ (fun name kind cells => rfl) _ _ _ _ ?_)
    obtain ⟨ρ', p, S2, c2⟩ := cells_st scope.names cl cs hn S1 (hc.mono (List.prefix_append ..))
    have hsz : (s.heap.push { cls := cls, data := .dict #[] }).objs.size = s.heap.objs.size + 1 := Heap.size_push ..
    have V : EnvOk ρ' ⟨scope.names, H.length, cellsAt (H.length + 1) scope.names ++ cs⟩ (newEnv scope s.heap.objs.size globals (cellsFrom (s.heap.push { cls := cls, data := .dict #[] }).objs.size scope.names cl) qual func code around bn) := by
      have kind : ∀ x, Env.kindOf (newEnv scope s.heap.objs.size globals (cellsFrom (s.heap.push { cls := cls, data := .dict #[] }).objs.size scope.names cl) qual func code around bn) x = scope.names.lookup x := by
        intro x; cases around <;> rfl
      refine ⟨by cases around <;> exact hk, by cases around <;> exact hg, by cases around <;> exact hb, ?_, fun x k e => .inl ?_, fun x k e => ?_⟩
      · have : (ρ ++ [s.heap.objs.size])[H.length]? = some s.heap.objs.size := by rw [← S.len]; simp
        have l : (newEnv scope s.heap.objs.size globals (cellsFrom (s.heap.push { cls := cls, data := .dict #[] }).objs.size scope.names cl) qual func code around bn).locals = s.heap.objs.size := by cases around <;> rfl
        rw [l]
        exact get_pre p this
      · rw [kind, ← lkp_eq]; exact e
      · have q : (newEnv scope s.heap.objs.size globals (cellsFrom (s.heap.push { cls := cls, data := .dict #[] }).objs.size scope.names cl) qual func code around bn).cells = cellsFrom (s.heap.push { cls := cls, data := .dict #[] }).objs.size scope.names cl := by cases around <;> rfl
        rw [q]
        have := c2 x k (by simpa using e)
        exact this
    have S2' : St B ρ' (H ++ (.ns [] :: (cellsAt (H.length + 1) scope.names).map fun _ => .cell none)) { s with heap := pushCells (s.heap.push { cls := cls, data := .dict #[] }) scope.names } := by
      have e : (H ++ (AObj.ns [] :: (cellsAt (H.length + 1) scope.names).map fun _ => .cell none)) = (H ++ [.ns []]) ++ (cellsAt (H ++ [AObj.ns []]).length scope.names).map fun _ => .cell none := by simp
      rw [e]; exact S2
    refine wpAny_bind (wpAny_mono (binds_sound (fun _ _ _ => rfl) ab cb h he (hv.mono ((List.prefix_append ..).trans p)) V S2') (fun _ s' q => wpAny_pure ⟨?_, ?_, ρ', (List.prefix_append ..).trans p, V, q.2, ?_⟩) fun _ _ e => e)
    · exact (Same.mk s _ s.toks).trans q.1
    · cases around <;> rfl
    · cases around <;> rfl
  have := go (.type (if around.isSome then "dict" else "frame"))
  cases around <;> exact this
end
end Mine

namespace Mine
open PySem PySem.Calls PyProof.Rows PySem.W

section
variable {prog : Program} {w : World} {cx : Cx} {h₀ : Heap} {ih : Ev} {n m : Nat}
variable {B : Base} {ρ : List Addr} {H H' H₁ : Hp} {s : Shared} {ae : AEnv} {env : Env} {A : Around} {E : Value → Shared → Prop} {v : AV}

theorem zip_fst {α β : Type} : ∀ (l : List α) (r : List β), l.length = r.length → (l.zip r).map (·.1) = l
  | [], [], _ => rfl
  | a :: l, b :: r, h => by simp only [List.zip_cons_cons, List.map_cons]; rw [zip_fst l r (by simpa using h)]
theorem zip_snd {α β : Type} : ∀ (l : List α) (r : List β), l.length = r.length → (l.zip r).map (·.2) = r
  | [], [], _ => rfl
  | a :: l, b :: r, h => by simp only [List.zip_cons_cons, List.map_cons]; rw [zip_snd l r (by simpa using h)]
theorem zip_take {α β : Type} : ∀ (l : List α) (r : List β), l.zip r = l.zip (r.take l.length)
  | [], _ => by simp
  | _ :: _, [] => by simp
  | a :: l, b :: r => by simp only [List.zip_cons_cons, List.length_cons, List.take_succ_cons]; rw [← zip_take l r]

theorem c_sound (G : Gd prog w cx h₀) (I : Snd prog w h₀ ih n) : Snd4 prog w h₀ (stepC cx ih) (n + 1) := by
  intro a vs ws B ρ H s A v H' h hB hv S hR R hQ
  have hl := lim_le
  refine ooFD h ?_
  clear h; intros; rename_i fd hfd h
  have F := G.fn a fd hfd
  refine ooBody h ?_
  clear h; intros; rename_i body hbody h
  refine ooEn h ?_
  clear h; intros; rename_i binds H1 hent h
  refine ooHp h ?_
  clear h; intros; rename_i H2 hbp h
  refine ooRet h ?_
  clear h; intros; rename_i u H3 hx h
  have hsw : sweep H.length u H3 = (v, H') := Option.some.inj h
  obtain ⟨o, ho, hdat⟩ := F.obj
  have keep : ∀ b o, h₀.get? b = some o → s.heap.get? b = some o := fun b o e => S.kept b o (hB b o e)
  have hcode : s.heap.CodeRec fd.code fd.qualname := F.code.keeps keep
  refine codeAny_call_function (by have := hR.depth; show A.depth < 1000; omega) (keep _ _ ho) hdat F.co F.gen hbody hcode ?_
  -- the rest, once the parameters are bound
  have rest : ∀ (cb : List (Str × Value)) (s₁ : Shared) (ρ₁ : List Addr), Same s s₁ → ρ <+: ρ₁ → St B ρ₁ H1 s₁ → binds.map (·.1) = cb.map (·.1) → VRs ρ₁ (binds.map (·.2)) (cb.map (·.2)) →
      wpAny (model prog w) A.in1 (newFunctionEnv fd.scope fd.globals fd.closure cb (fd.qualname ++ ".<locals>.") (some a) fd.code none fd.builtins)
        (fun env s₂ => s₂.heap.NoLimit ∧ codeAny (model prog w) A (.func body env) R s₂) (fun e s' => R (.error e) s') s₁ := by
    intro cb s₁ ρ₁ sm₁ p₁ S₁ hfst hsnd
    rw [F.clos]
    refine wpAny_mono (newEnv_sound (cs := []) F.kind F.nodup F.glob F.bn (fun x k e => by cases e) S₁ (by simpa using hbp) hfst hsnd) (fun env s₂ q => ?_) fun _ _ e => e
    refine hide fun GG hGG => ?_
    obtain ⟨sm₂, hsc, ρ₂, p₂, V, S₂, _⟩ := q
    refine hGG ?_
    clear hGG GG
    have keep₂ : ∀ b o, h₀.get? b = some o → s₂.heap.get? b = some o := fun b o e => S₂.kept b o (hB b o e)
    refine ⟨G.nolimit.keeps keep₂, codeAny_func ?_⟩
    have V' : EnvOk ρ₂ ⟨fd.scope.names, H1.length, cellsAt (H1.length + 1) fd.scope.names⟩ env := by simpa using V
    refine wpAny_mono (I.x 40 40 body _ env B ρ₂ H2 s₂ (A.deeper env) (.ret u) H3 hx hB V' S₂ (hR.deeper env) _) (fun f s₃ q => ?_) fun _ _ e => e
    refine hide fun GG hGG => ?_
    obtain ⟨sm₃, ρ₃, p₃, ⟨x, rfl, hxr⟩, S₃⟩ := q
    have pp : ρ <+: ρ₃ := p₁.trans (p₂.trans p₃)
    obtain ⟨ρ₄, p₄, hx₄, S₄⟩ := sweep_sound pp S₃ hxr
    refine hGG ?_
    clear hGG GG
    rw [S.len, hsw] at hx₄ S₄
    exact hQ x s₃ ⟨sm₁.trans (sm₂.trans sm₃), ρ₄, p₄, hx₄, S₄⟩
  unfold enter at hent
  simp only at hent
  split at hent
  · rename_i hva
    refine ooT hent ?_
    clear hent; intros; rename_i hlen hent
    cases hent
    have hlen := Nat.eq_of_beq_eq_true hlen
    have hwl := hv.length
    obtain hb := F.binds hva ws s (by omega)
    refine hb _ _ _ _ ?_
    refine rest _ s ρ (Same.refl s) (List.prefix_refl _) S ?_ ?_
    · rw [zip_fst _ _ hlen, zip_fst _ _ (by omega)]
    · rw [zip_snd _ _ hlen, zip_snd _ _ (by omega)]; exact hv
  · rename_i va hva
    refine ooT hent ?_
    clear hent; intros; rename_i hlen hent
    refine ooT hent ?_
    clear hent; intros; rename_i hok hent
    cases hent
    rw [Bool.and_eq_true] at hlen
    have h7 := Nat.eq_of_beq_eq_true hlen.2
    have hlen := Nat.le_of_ble_eq_true hlen.1
    have hok := okL_le hok
    have hwl := hv.length
    have hwd := (hv.drop (fd.params.args.map (·.arg)).length)
    refine F.bindv va hva ws s _ _ _ _ (by omega) ?_
    refine wpAny_newObj_type ?_ (by show (List.toArray _).size ≤ sizeLine; rw [List.size_toArray, hwd.length]; omega)
    have P := post_tup S hwd hok (push_keeps s.heap { cls := .type "tuple", data := .seq (ws.drop (fd.params.args.map (·.arg)).length).toArray }) (Nat.le_refl _) (push_tuple _ _) s.toks
    refine hide fun GG hGG => ?_
    obtain ⟨sm₁, ρ₁, p₁, hr₁, S₁⟩ := P
    refine hGG ?_
    clear hGG GG
    refine rest _ _ ρ₁ sm₁ p₁ S₁ ?_ ?_
    · rw [List.map_append, List.map_append, zip_take, zip_take _ ws, zip_fst _ _ (by rw [List.length_take]; omega), zip_fst _ _ (by rw [List.length_take]; omega)]; rfl
    · rw [List.map_append, List.map_append, zip_take, zip_take _ ws, zip_snd _ _ (by rw [List.length_take]; omega), zip_snd _ _ (by rw [List.length_take]; omega)]
      exact ((hv.take _).mono p₁).append ⟨hr₁, trivial⟩
theorem c_fn (G : Gd prog w cx h₀) : ∀ H a vs r, stepC cx ih H a vs = some r → ∃ o fd, h₀.get? a = some o ∧ o.data = .func fd := by
  intro H a vs r h
  refine ooFD h ?_
  clear h; intros; rename_i fd hfd h
  obtain ⟨o, ho, hd⟩ := (G.fn a fd hfd).obj
  exact ⟨o, fd, ho, hd⟩
end
end Mine

namespace Mine
open PySem PySem.Calls PyProof.Rows PySem.W

section
variable {prog : Program} {w : World} {cx : Cx} {h₀ : Heap} {ih : Ev} {n m : Nat}
variable {B : Base} {ρ : List Addr} {H H' H₁ : Hp} {s : Shared} {ae : AEnv} {env : Env} {A : Around} {E : Value → Shared → Prop} {v : AV}

theorem isTRange_eq {b : BI} (h : isTRange b = true) : b = .tRange := by cases b <;> first | rfl | exact ff h
theorem noSet (I : Snd prog w h₀ ih n) {e : PySem.Expr} {x : List AV × Option Nat × Hp} (h : itemsOf cx ih ae H (cE m e) = some x) : ∀ x, foldedSetIterable e env x = pure x := by
  cases e <;> first | (intro x; rfl) | skip
  exfalso
  have hb : cE m (.Set ‹_› ‹_› ‹_›) = .bad := by cases m <;> rfl
  rw [hb] at h
  have h : (match ih.e ae H .bad with | some (v, H1) => freeze cx H1 v | none => none) = some x := h
  rw [I.nb] at h
  exact ooNo h

theorem isRange_some {x : X} {args : List X} (h : isRange cx ae H x = some args) : ∃ f, xcall? x = some (f, args) ∧ ∃ H', eName cx ae H f = some (.bi .tRange, H') := by
  refine ooSX h fun f as hf h => ooP h fun v H' e h => ooBI h fun b hb h => ooT h fun ht h => ?_
  cases h
  rw [bi?_some hb, isTRange_eq ht] at e
  exact ⟨f, hf, H', e⟩

theorem items_sound (G : Gd prog w cx h₀) (I : Snd prog w h₀ ih n) {e : PySem.Expr} {xs : List AV} {fr : Option Nat} (c : Here h₀ B ρ ae env H s A n) (h : itemsOf cx ih ae H (cE m e) = some (xs, fr, H₁)) :
    wpAny (model prog w) A (eval e env) (fun x s₁ => wpAny (model prog w) A (pyIter x) (fun it s₂ => ∃ ρ₀ s₀, Same s s₀ ∧ ρ <+: ρ₀ ∧ Thawed B ρ₀ fr ∧ Ready prog w B ρ₀ s₀ H₁ xs it s₂) E s₁) E s := by
  unfold itemsOf at h
  cases hr : isRange cx ae H (cE m e) with
  | some args =>
    rw [hr] at h
    refine hide fun GG hGG => ?_
    obtain ⟨f, hf, H0, hn⟩ := isRange_some hr
    obtain ⟨m', es, p, pos, rfl, rfl, rfl⟩ := call_cE hf
    refine hGG ?_
    clear hGG GG
    refine ooF (show itemsR ih ae H _ = _ from h) fun hst h => ooVs h fun vs H2 h2 h => ooLA h fun ys hra h => ?_
    cases h
    refine Call_ (eName_sound G c hn fun _ u hu => ?_)
    cases hu
    have fl := noStar_flags (pos := pos) (env := env) I es h2 hst
    refine callWith_bi (b := .tRange) fl.1 (evalArgs_sp ?_ ?_)
    · intro q e
      have := fl.1
      rw [e] at this
      cases this
    · refine nxt (list_sound I es c h2) fun ws s₂ ρ₂ sm₂ p₂ hws S₂ => ?_
      exact wpAny_mono (rangeArgs_sound S₂ hra hws) (fun x s₃ q => wpAny_mono q (fun it s₄ r => ⟨ρ₂, s₂, sm₂, p₂, (fun k e => by cases e), r⟩) fun _ _ e => e) fun _ _ e => e
  | none =>
    rw [hr] at h
    refine ooP (show itemsE cx ih ae H _ = _ from h) fun v H2 h2 h => ?_
    refine nxt (goE I c h2) fun x s₁ ρ₁ sm p hx S₁ => ?_
    obtain ⟨t1, t2⟩ := freeze_sound (prog := prog) (w := w) (A := A) (E := E) G c.hB S₁ h hx
    exact wpAny_mono t2 (fun it s₂ r => ⟨ρ₁, s₁, sm, p, t1, r⟩) fun _ _ e => e

/-- tests of a comprehension -/
theorem tests_false {M : Model} {Q : Bool → Shared → Prop} : ∀ (ifs : List PySem.Expr), Q false s →
    wpAny M A (forIn ifs false fun c r => if r = true then do let ok ← isTrue c env (eval c env); pure (ForInStep.yield ok) else pure (ForInStep.yield r)) Q E s
  | [], h => by rw [List.forIn_nil]; exact wpAny_pure h
  | c :: ifs, h => by
    rw [List.forIn_cons]
    simp only [Bool.false_eq_true, if_false]
    exact wpAny_bind (wpAny_pure (tests_false ifs h))
theorem tests_sound (I : Snd prog w h₀ ih n) {b : Bool} : ∀ (ifs : List PySem.Expr) {ρ : List Addr} {H : Hp} {s : Shared}, Here h₀ B ρ ae env H s A n → testAll (ih.t ae) (ifs.map (cE m)) H = some (b, H') →
    wpAny (model prog w) A (forIn ifs true fun c r => if r = true then do let ok ← isTrue c env (eval c env); pure (ForInStep.yield ok) else pure (ForInStep.yield r)) (Post B ρ s H' fun _ x => x = b) E s
  | [], ρ, H, s, c, h => by
    cases h
    rw [List.forIn_nil]; exact wpAny_pure (.here (Same.refl _) rfl c.S)
  | e :: ifs, ρ, H, s, c, h => by
    simp only [List.map_cons, testAll] at h
    rw [List.forIn_cons]
    simp only [if_true]
    refine ooTF h ?_ ?_
    · clear h; intros; rename_i H1 h1 h
      refine wpAny_bind (wpAny_bind (nxt (goT I c h1) fun x s₁ ρ₁ sm p hx S₁ => wpAny_pure ?_))
      subst hx
      exact lift sm p (tests_sound I ifs (c.next p S₁) h)
    · clear h; intros; rename_i H1 h1 h
      cases h
      refine wpAny_bind (wpAny_bind (nxt (goT I c h1) fun x s₁ ρ₁ sm p hx S₁ => wpAny_pure ?_))
      subst hx
      exact tests_false ifs (.up sm p (.here (Same.refl _) rfl S₁))

theorem relabel_kind {env : Env} : ∀ {names : List (Str × NameKind)} {x : Str} {k : NameKind}, lkp x names = some k →
    (names.map fun (n, k) => if (k == NameKind.free && env.scope.kind == .function && env.kindOf n == some .cell) then (n, NameKind.cell) else (n, k)).lookup x = some k ∨
    (k = .free ∧ (names.map fun (n, k) => if (k == NameKind.free && env.scope.kind == .function && env.kindOf n == some .cell) then (n, NameKind.cell) else (n, k)).lookup x = some .cell)
  | [], _, _, h => by cases h
  | (y, j) :: r, x, k, h => by
    have ih := @relabel_kind env r x k
    unfold lkp at h
    rw [List.map_cons]
    show List.lookup x ((if (j == NameKind.free && env.scope.kind == .function && env.kindOf y == some .cell) = true then (y, NameKind.cell) else (y, j)) :: _) = _ ∨ _ ∧ List.lookup x ((if (j == NameKind.free && env.scope.kind == .function && env.kindOf y == some .cell) = true then (y, NameKind.cell) else (y, j)) :: _) = _
    split at h
    · rename_i hs
      cases h
      have := seq_iff.mp hs; subst this
      by_cases hc : (j == NameKind.free && env.scope.kind == .function && env.kindOf x == some .cell) = true
      · rw [if_pos hc]
        right
        simp only [Bool.and_eq_true, beq_iff_eq] at hc
        exact ⟨hc.1.1, by simp⟩
      · rw [if_neg hc]; left; simp
    · rename_i hs
      have hne : (x == y) = false := beq_eq_false_iff_ne.mpr (seq_false.mp hs)
      by_cases hc : (j == NameKind.free && env.scope.kind == .function && env.kindOf y == some .cell) = true
      · rw [if_pos hc]; simp only [List.lookup_cons, hne]; exact ih h
      · rw [if_neg hc]; simp only [List.lookup_cons, hne]; exact ih h
theorem EnvOk.relabel {scope : Scope} {env env' : Env} {l : Nat} {cs : List (Str × Nat)} (V : EnvOk ρ ⟨scope.names, l, cs⟩ env') (hs : env'.scope = scope) : EnvOk ρ ⟨scope.names, l, cs⟩ { env' with scope := PySem.relabel scope env } := by
  refine ⟨by show (PySem.relabel scope env).kind = _; have := V.kind; rw [hs] at this; exact this, V.glob, V.bn, V.loc, fun x k e => ?_, V.cells⟩
  exact relabel_kind e

theorem closure_none {x : Str} {cells : List (Str × Nat)} : ∀ {names : List (Str × NameKind)} {l : List (Str × Nat)}, closure cells names = some l → lkp x names = none → lkp x l = none
  | [], _, h, _ => by cases h; rfl
  | (y, k) :: r, l, h, hx => by
    unfold lkp at hx
    split at hx
    · cases hx
    · rename_i hs
      unfold closure at h
      cases k <;> simp only at h
      case free =>
        refine ooN h ?_
        clear h; intros; rename_i h
        refine ooLN h ?_
        clear h; intros; rename_i l0 e0 h
        cases h
        simp only [lkp, hs]
        exact closure_none e0 hx
      all_goals exact closure_none h hx
theorem closure_loop (V : EnvOk ρ ae env) : ∀ (names : List (Str × NameKind)) {l cs : List (Str × Nat)} {acc : List (Str × Addr)}, nodupN names = true → closure ae.cells names = some l → CRel ρ cs acc →
    ∃ acc', (forIn names acc (fun (x : Str × NameKind) (cs : List (Str × Addr)) => if x.2 == .free then (do let a ← cellOf env x.1; pure (ForInStep.yield ((x.1, a) :: cs))) else pure (.yield cs)) : Sem (List (Str × Addr))) = pure acc' ∧ CRel ρ (l ++ cs) acc'
  | [], l, cs, acc, _, h, hc => by cases h; exact ⟨acc, rfl, hc⟩
  | (x, k) :: r, l, cs, acc, hn, h, hc => by
    obtain ⟨h1, h2⟩ := nodupN_cons hn
    rw [List.forIn_cons]
    by_cases hk : k = .free
    · subst hk
      unfold closure at h
      simp only at h
      refine ooN h ?_
      clear h; intros; rename_i j hj h
      refine ooLN h ?_
      clear h; intros; rename_i l0 e0 h
      cases h
      refine hide fun GG hGG => ?_
      obtain ⟨a, ha, hr⟩ := V.cells x j hj
      have hcell : cellOf env x = pure a := by unfold cellOf; rw [ha]
      have hc1 : CRel ρ ((x, j) :: cs) ((x, a) :: acc) := by
        intro y k e
        simp only [lkp] at e
        split at e
        · rename_i hs
          cases e
          have := seq_iff.mp hs; subst this
          exact ⟨a, by simp, hr⟩
        · rename_i hs
          obtain ⟨b, e1, e2⟩ := hc y k e
          refine ⟨b, ?_, e2⟩
          rw [List.lookup_cons, show (y == x) = false from beq_eq_false_iff_ne.mpr (seq_false.mp hs)]
          exact e1
      obtain ⟨acc', e', c'⟩ := closure_loop V r h2 e0 hc1
      refine hGG ?_
      clear hGG GG
      refine ⟨acc', ?_, ?_⟩
      · simp only [beq_self_eq_true, if_true, hcell]
        exact e'
      · intro y k e
        apply c'
        rw [lkp_app]
        rw [List.cons_append] at e
        simp only [lkp] at e ⊢
        cases hs : seq y x with
        | true =>
          simp only [hs] at e
          have := seq_iff.mp hs; subst this
          rw [closure_none e0 h1]
          simpa using e
        | false => simp only [hs] at e; rw [lkp_app] at e; exact e
    · have hkb : (k == NameKind.free) = false := by cases k <;> first | rfl | exact absurd rfl hk
      have hcl : closure ae.cells r = some l := by cases k <;> first | exact h | exact absurd rfl hk
      obtain ⟨acc', e', c'⟩ := closure_loop V r h2 hcl hc
      refine ⟨acc', ?_, c'⟩
      simp only [hkb, Bool.false_eq_true, if_false]
      exact e'
theorem closure_sound (V : EnvOk ρ ae env) {scope : Scope} {l : List (Str × Nat)} (hn : nodupN scope.names = true) (h : closure ae.cells scope.names = some l) : ∃ cl, closureFor scope env = pure cl ∧ CRel ρ l cl := by
  obtain ⟨acc, e, c⟩ := closure_loop V scope.names hn h (cs := []) (acc := []) (fun x k e => by cases e)
  refine ⟨acc, ?_, by simpa using c⟩
  have e2 : closureFor scope env = ((forIn scope.names [] (fun (x : Str × NameKind) (cs : List (Str × Addr)) => if x.2 == .free then (do let a ← cellOf env x.1; pure (ForInStep.yield ((x.1, a) :: cs))) else pure (.yield cs)) : Sem (List (Str × Addr))) >>= pure) := rfl
  rw [e2, e]; rfl
end
end Mine

namespace Mine
open PySem PySem.Calls PyProof.Rows PySem.W

section
variable {prog : Program} {w : World} {cx : Cx} {h₀ : Heap} {ih : Ev} {n m : Nat}
variable {B : Base} {ρ : List Addr} {H H' H₁ : Hp} {s : Shared} {ae : AEnv} {env : Env} {A : Around} {E : Value → Shared → Prop} {v : AV}

theorem over_hB {fp : List Addr} (hB : ∀ b o, h₀.get? b = some o → B b = some o) (S : St B ρ H s) : ∀ b o, h₀.get? b = some o → B.over fp s.heap b = some o := by
  intro b o e
  unfold Base.over
  split
  · exact S.kept b o (hB b o e)
  · exact hB b o e
theorem drop_cons {α : Type} {l : List α} {i : Nat} {a : α} (h : l[i]? = some a) : l.drop i = a :: l.drop (i + 1) := by
  obtain ⟨hl, e⟩ := List.getElem?_eq_some_iff.mp h
  rw [List.drop_eq_getElem_cons hl, e]

theorem veil {α β : Type} (P : α → β → Prop) {G : Prop} (k : ∀ I : α → β → Prop, (∀ a b, P a b → I a b) → (∀ a b, I a b → P a b) → G) : G := k P (fun _ _ h => h) fun _ _ h => h
theorem loop_less {i n : Nat} (h : i < n) : n + 1 - (i + 1) < n + 1 - i := by omega
/-- the turns of a comprehension -/
theorem compLoop_sound (I : Snd prog w h₀ ih n) {elt iter : PySem.Expr} {x : Str} {px : Pos} {ifs : List PySem.Expr} {scope : Scope} {pos : Pos} {items : List AV} {It0 : Addr} {fp wr : List Addr} {P : Nat → Value → Prop} {Stt : Nat → Heap → Prop} {ρ₂ : List Addr}
    {acc : Nat} {D : Addr} {H₂ : Hp} {R : Result → Shared → Prop}
    (hA : A.handled = none) (T : It prog w B items ρ₂ It0 fp wr P Stt) (p₂ : ρ₂ <+: ρ) (c : Here h₀ B ρ ae env H s A n) (hap : Apart ρ H fp) (hst : Stt 0 s.heap) (hD : ρ[acc]? = some D)
    (h : compGo ae x acc (testAll (ih.t ae) (ifs.map (cE m))) (fun H => ih.e ae H (cE m elt)) items H = some H₂)
    (hR : ∀ s', Same s s' → (∃ ρ', ρ <+: ρ' ∧ St B ρ' H₂ s') → R (.ok .next) s') :
    codeAny (model prog w) A (.compLoop (.ListComp elt [⟨.Name x px, iter, ifs, 0⟩] scope pos) 0 (.ref It0) (.ref D) env) R s := by
  refine veil (fun (k : Nat) (s' : Shared) => ∃ i Hi ρi, k = items.length + 1 - i ∧ i ≤ items.length ∧ Same s s' ∧ ρ <+: ρi ∧ St B ρi Hi s' ∧ Apart ρi Hi fp ∧ Stt i s'.heap ∧
      compGo ae x acc (testAll (ih.t ae) (ifs.map (cE m))) (fun H => ih.e ae H (cE m elt)) (items.drop i) Hi = some H₂) fun IV mk un => ?_
  refine codeAny_compLoop_tests IV ?_ (items.length + 1) (mk _ _ ⟨0, H, ρ, rfl, Nat.zero_le _, Same.refl _, List.prefix_refl _, c.S, hap, hst, h⟩)
  intro k s' iv
  refine hide fun GG hGG => ?_
  obtain ⟨i, Hi, ρi, rfl, hi, sm, p, S, ha, st, hgo⟩ := un _ _ iv
  refine hGG ?_
  clear hGG GG
  clear iv un
  by_cases hlt : i < items.length
  · refine (T.W A hA).item i _ _ _ hlt st fun u h₁ tk₁ hP st₁ hk₁ => ?_
    obtain ⟨a, hia, hav⟩ := T.val i u hP
    rw [drop_cons hia] at hgo
    unfold compGo at hgo
    have S₁ := S.step hk₁ (T.al i _ st) T.nb tk₁
    have S₁o := S₁.over ha
    have hB₁ := over_hB (fp := fp) c.hB S₁
    have V₁ := c.V.mono p
    have c₁ : Here h₀ (B.over fp h₁) ρi ae env Hi { s' with heap := h₁, toks := tk₁ } A n := ⟨hB₁, V₁, S₁o, c.R⟩
    have back : ∀ {ρj : List Addr} {Hj : Hp} {sj : Shared}, Same s sj → ρ <+: ρj → St (B.over fp h₁) ρj Hj sj →
        compGo ae x acc (testAll (ih.t ae) (ifs.map (cE m))) (fun H => ih.e ae H (cE m elt)) (items.drop (i + 1)) Hj = some H₂ →
        ∃ k', k' < items.length + 1 - i ∧ IV k' sj := by
      intro ρj Hj sj smj pj Sj hg
      obtain ⟨Sb, hapj, hfp⟩ := Sj.unover (T.inn _ _ st₁) fun b o e hb => S₁.kept b o e
      exact ⟨items.length + 1 - (i + 1), loop_less hlt, mk _ _ ⟨i + 1, Hj, ρj, rfl, hlt, smj, pj, Sb, hapj, (T.W A hA).frame _ _ _ st₁ fun b hb o e => hfp b hb o e, hg⟩⟩
    refine ooHp hgo ?_
    clear hgo; intros; rename_i Ha hwr hgo
    refine wpAny_assign_Name (wrVar_sound hwr c₁.V c₁.S (hav.mono (p₂.trans p)) fun s₂ sm₂ S₂ => ?_)
    have c₂ : Here h₀ (B.over fp h₁) ρi ae env Ha s₂ A n := ⟨hB₁, V₁, S₂, c.R⟩
    have sms : Same s s₂ := sm.trans ((Same.mk s' h₁ tk₁).trans sm₂)
    refine ooFTs hgo ?_ ?_
    · clear hgo; intros; rename_i Hb hts hgo
      refine nxt (tests_sound I ifs c₂ hts) fun ok s₃ ρ₃ sm₃ p₃ hok S₃ => ?_
      subst hok
      simp only [Bool.false_eq_true, if_false]
      exact back (sms.trans sm₃) (p.trans p₃) S₃ hgo
    · clear hgo; intros; rename_i Hb hts hgo
      refine nxt (tests_sound I ifs c₂ hts) fun ok s₃ ρ₃ sm₃ p₃ hok S₃ => ?_
      subst hok
      simp only [if_true]
      refine ooP hgo ?_
      clear hgo; intros; rename_i y Hc hel hgo
      refine nxt (goE I (c₂.next p₃ S₃) hel) fun z s₄ ρ₄ sm₄ p₄ hz S₄ => ?_
      refine ooList hgo ?_
      clear hgo; intros; rename_i ys hys hgo
      refine ooT hgo ?_
      clear hgo; intros; rename_i hok hgo
      have hm : method Hc (.obj acc) .append [y] = some (.none, Hc.set acc (.list (ys ++ [y]))) := by
        show mAppend Hc (.obj acc) [y] = _
        simp only [mAppend, obj?, one?, hys, hok]
      have hacc : VR ρ₄ (.obj acc) (.ref D) := ⟨D, get_pre (p.trans (p₃.trans p₄)) hD, rfl⟩
      refine nxt (callMeth_sound (m := .append) S₄ hm hacc ⟨hz, trivial⟩) fun q s₅ ρ₅ sm₅ p₅ hq S₅ => ?_
      exact back (sms.trans (sm₃.trans (sm₄.trans sm₅))) (p.trans (p₃.trans (p₄.trans p₅))) S₅ hgo
  · have hin : i = items.length := by omega
    subst hin
    rw [List.drop_length] at hgo
    unfold compGo at hgo
    cases hgo
    refine (T.W A hA).done _ _ _ st fun h₁ tk₁ hk₁ => ?_
    exact hR _ (sm.trans (Same.mk s' h₁ tk₁)) ⟨ρi, p, S.step hk₁ (T.al _ _ st) T.nb tk₁⟩
end
end Mine

namespace Mine
open PySem PySem.Calls PyProof.Rows PySem.W

section
variable {prog : Program} {w : World} {cx : Cx} {h₀ : Heap} {ih : Ev} {n m : Nat}
variable {B : Base} {ρ : List Addr} {H H' H₁ : Hp} {s : Shared} {ae : AEnv} {env : Env} {A : Around} {E : Value → Shared → Prop} {v : AV}

theorem low_succ {n : Nat} : ∀ {v : AV}, low n v = true → low (n + 1) v = true
  | .obj k, h => by
    have : k < n := Nat.le_of_ble_eq_true h
    exact Nat.ble_eq_true_of_le (by omega)
  | .none, _ => rfl
  | .bool _, _ => rfl
  | .int _, _ => rfl
  | .str _, _ => rfl
  | .fn _, _ => rfl
  | .bi _, _ => rfl
  | .gref _, _ => rfl
theorem lowO_succ {n : Nat} {o : AObj} (h : lowO n o = true) : lowO (n + 1) o = true := by
  cases o with
  | list xs => exact List.all_eq_true.mpr fun x hx => low_succ (List.all_eq_true.mp h x hx)
  | flist xs => exact List.all_eq_true.mpr fun x hx => low_succ (List.all_eq_true.mp h x hx)
  | tup xs => exact List.all_eq_true.mpr fun x hx => low_succ (List.all_eq_true.mp h x hx)
  | ns m => exact List.all_eq_true.mpr fun x hx => low_succ (List.all_eq_true.mp h x hx)
  | cell c => cases c with
    | none => rfl
    | some v => exact low_succ (v := v) h
theorem noObj_low {n : Nat} {xs : List AV} (h : xs.any isObj = false) : xs.all (low n) = true := by
  rw [List.all_eq_true]
  intro x hx
  have : isObj x = false := by
    cases e : isObj x with
    | false => rfl
    | true => exact absurd (List.any_eq_true.mpr ⟨x, hx, e⟩) (by rw [h]; decide)
  cases x <;> first | rfl | cases this

theorem St.but (S : St B ρ H s) {C : Addr} {h' : Heap} (hC : C ∉ ρ) (hB : B C = none) (hs : Heap.SameBut C s.heap h') : St B ρ H { s with heap := h' } :=
  ⟨fun b o e => (hs.2 b (fun q => by rw [q, hB] at e; cases e)).trans (S.kept b o e), S.len, S.nodup, S.own, fun i a o e1 e2 =>
    (S.objs i a o e1 e2).mono (List.prefix_refl _) fun ob e => (hs.2 a (fun q => hC (q ▸ List.mem_of_getElem? e1))).trans e⟩

theorem compEnd_sound {ρ₂ ρ' : List Addr} {k : Nat} (p : ρ₂ <+: ρ') (hk : ρ₂.length = k) (S : St B ρ' H s) {D C : Addr} (hD : ρ'[k]? = some D) (hC : ρ'[k + 1]? = some C) (h : compEnd k H = some (v, H')) :
    v = .obj k ∧ (∃ mf, s.heap.Ns C mf) ∧ B C = none ∧ St B (ρ₂ ++ [D]) H' s ∧ C ∉ ρ₂ ++ [D] := by
  refine ooTN h ?_
  clear h; intros; rename_i mm hlow hns h
  refine ooList h ?_
  clear h; intros; rename_i ys hys h
  refine ooF h ?_
  clear h; intros; rename_i hobj h
  cases h
  have hlt : k < ρ'.length := (List.getElem?_eq_some_iff.mp hD).1
  have e1 : ρ₂ ++ [D] = ρ'.take (k + 1) := by
    rw [List.take_add_one, hD]
    congr 1
    rw [← hk]; exact (prefix_take p).symm
  have e2 : H.take k ++ [.list ys] = H.take (k + 1) := by rw [List.take_add_one, hys]; rfl
  refine hide fun GG hGG => ?_
  obtain ⟨a, ha, mf, hn, _⟩ := S.addr hns
  refine hGG ?_
  clear hGG GG
  rw [hC] at ha; cases ha
  have hlen : (ρ'.take (k + 1)).length = k + 1 := by rw [List.length_take]; omega
  refine ⟨rfl, ⟨mf, hn⟩, S.own _ _ _ hC hns rfl, ?_, ?_⟩
  · rw [e1, e2]
    have := S.cutTo (List.take_prefix (k + 1) ρ') (by
      rw [hlen, ← e2, List.all_append, Bool.and_eq_true]
      refine ⟨List.all_eq_true.mpr fun o ho => lowO_succ (List.all_eq_true.mp hlow o ho), ?_⟩
      simp only [List.all_cons, List.all_nil, Bool.and_true]
      exact noObj_low hobj)
    rwa [hlen] at this
  · rw [e1]
    intro hm
    obtain ⟨j, hj, e⟩ := List.mem_iff_getElem.mp hm
    rw [List.length_take] at hj
    rw [List.getElem_take] at e
    have := S.inj (List.getElem?_eq_getElem (show j < ρ'.length by omega)) (e ▸ hC)
    omega

theorem nodupN_lookup : ∀ {names : List (Str × NameKind)}, nodupN names = true → ∀ x ∈ names, names.lookup x.1 = some x.2
  | [], _, x, hx => by cases hx
  | (y, k) :: r, h, x, hx => by
    obtain ⟨h1, h2⟩ := nodupN_cons h
    rcases List.mem_cons.mp hx with rfl | hx
    · simp
    · have ih := nodupN_lookup h2 x hx
      rw [← lkp_eq] at ih ⊢
      unfold lkp
      split
      · rename_i hs
        have := seq_iff.mp hs
        rw [this, h1] at ih; cases ih
      · exact ih

theorem comp_sound (G : Gd prog w cx h₀) (I : Snd prog w h₀ ih n) {elt iter : PySem.Expr} {x : Str} {px : Pos} {ifs : List PySem.Expr} {scope : Scope} {pos fpos : Pos} {use : Option (Value → Sem Unit)} {Q : Value → Shared → Prop}
    (c : Here h₀ B ρ ae env H s A n) (hsc : scopeOk scope = true) (h : comp cx ih ae H (cE m elt) x (cE m iter) (ifs.map (cE m)) scope.names = some (v, H')) (hQ : UseOk prog w A E B ρ s v H' use Q) :
    wpAny (model prog w) A (comprehension (.ListComp elt [⟨.Name x px, iter, ifs, 0⟩] scope pos) scope env fpos (newList []) false (eval iter env) use) Q E s := by
  unfold scopeOk at hsc
  split at hsc
  · rename_i hkind
    unfold comp at h
    refine ooIt h ?_
    clear h; intros; rename_i items fr H1 hit h
    refine ooLN h ?_
    clear h; intros; rename_i cl hcl h
    refine ooHp h ?_
    clear h; intros; rename_i H2 hgo h
    refine ooHp h ?_
    clear h; intros; rename_i H3 hth h
    obtain ⟨clC, hclos, hcr⟩ := closure_sound c.V hsc hcl
    refine wpAny_comprehension_free rfl (noSet I hit) hclos hkind (fun z hz hl => hl ▸ nodupN_lookup hsc z hz) (wpAny_mono (items_sound G I c hit) (fun xv s₁ h₁ => wpAny_mono h₁ (fun it s₂ h₂ => ?_) fun _ _ e => e) fun _ _ e => e)
    refine hide fun GG hGG => ?_
    obtain ⟨ρ₀, s₀, sm₀, p₀, ht, It0, fp, wr, P, Stt, ρ₂, rfl, T, st, sm₂, p₂, S₂, hap⟩ := h₂
    refine hGG ?_
    clear hGG GG
    have So := S₂.over hap
    refine wpAny_newObj_type ?_
    have S3 := So.add (o := .list []) (h' := s₂.heap.push { cls := .type "list", data := .seq ([] : List Value).toArray }) (push_keeps _ _) (Nat.le_refl _) (fun _ => So.fresh (Nat.le_refl _))
      ⟨Nat.zero_le _, [], push_plain _ _, trivial⟩ s₂.toks
    have pr : ρ <+: ρ₂ ++ [s₂.heap.objs.size] := p₀.trans (p₂.trans (List.prefix_append ..))
    have hlen2 : ρ₂.length = H1.length := S₂.len
    refine wpAny_mono (newEnv_sound (H' := H1 ++ (.list [] :: .ns [] :: (cellsAt (H1.length + 2) scope.names).map fun _ => .cell none)) (cs := cl) (ab := []) (cb := []) (around := some env) hkind hsc c.V.glob c.V.bn (hcr.mono pr) S3 (by simp [bindParams]) rfl trivial) (fun env' s₄ q => ?_) fun _ _ e => e
    refine hide fun GG hGG => ?_
    obtain ⟨sm₄, hscope, ρ₄, p₄, V, S4, _⟩ := q
    have V4 : EnvOk ρ₄ ⟨scope.names, H1.length + 1, cellsAt (H1.length + 2) scope.names ++ cl⟩ { env' with scope := PySem.relabel scope env } := by
      have := V.relabel (env := env) hscope
      simpa using this
    obtain ⟨S4b, hap4, hfp⟩ := S4.unover (T.inn _ _ st) fun b o e hb => S₂.kept b o e
    refine hGG ?_
    clear hGG GG
    have st4 : Stt 0 s₄.heap := (T.W A c.R.handled).frame _ _ _ st fun b hb o e => hfp b hb o e
    have hD : ρ₄[H1.length]? = some s₂.heap.objs.size := get_pre p₄ (by rw [← hlen2]; simp)
    have hC : ρ₄[H1.length + 1]? = some env'.locals := V4.loc
    have c4 : Here h₀ B ρ₄ ⟨scope.names, H1.length + 1, cellsAt (H1.length + 2) scope.names ++ cl⟩ { env' with scope := PySem.relabel scope env } (H1 ++ (.list [] :: .ns [] :: (cellsAt (H1.length + 2) scope.names).map fun _ => .cell none)) s₄ A n := ⟨c.hB, V4, S4b, c.R⟩
    have sms : Same s s₄ := sm₀.trans (sm₂.trans ((Same.mk s₂ _ s₂.toks).trans sm₄))
    have p24 : ρ₂ <+: ρ₄ := (List.prefix_append ..).trans p₄
    have key : codeAny (model prog w) A (.compLoop (.ListComp elt [⟨.Name x px, iter, ifs, 0⟩] scope pos) 0 (.ref It0) (.ref s₂.heap.objs.size) { env' with scope := PySem.relabel scope env }) (compPost (model prog w) A E use Q (.ref s₂.heap.objs.size) env'.locals) s₄ := by
      refine compLoop_sound I c.R.handled T p24 c4 hap4 st4 hD hgo fun s' sm' hq => ?_
      refine hide fun GG hGG => ?_
      obtain ⟨ρ', p', S'⟩ := hq
      have S'' := thaw_sound S' hth (ht.mono (p₂.trans (p24.trans p')))
      obtain ⟨rfl, ⟨mf, hn⟩, hBC, SE, hCn⟩ := compEnd_sound (p24.trans p') hlen2 S'' (get_pre p' hD) (get_pre p' hC) h
      refine hGG ?_
      clear hGG GG
      have pE : ρ <+: ρ₂ ++ [s₂.heap.objs.size] := pr
      have hv : VR (ρ₂ ++ [s₂.heap.objs.size]) (.obj H1.length) (.ref s₂.heap.objs.size) := VR.last _ _ hlen2
      cases use with
      | none =>
        refine ⟨mf, hn, fun h' hs => hQ _ _ ⟨sms.trans (sm'.trans (Same.mk s' h' s'.toks)), _, pE, hv, SE.but hCn hBC hs⟩⟩
      | some u =>
        have hapC : Apart (ρ₂ ++ [s₂.heap.objs.size]) H' [env'.locals] := by
          intro i a o e1 e2 hm hb
          simp at hb; subst hb
          exact hCn (List.mem_of_getElem? e1)
        have SC := SE.over hapC
        refine wpAny_mono (hQ (B.over [env'.locals] s'.heap) _ s' _ (fun b o e => ?_) (sms.trans sm') pE hv SC) (fun _ s₇ q => ?_) fun _ _ e => e
        · unfold Base.over
          split
          · exact SE.kept b o e
          · exact e
        · refine hide fun GG hGG => ?_
          obtain ⟨H₇, sm₇, S₇, fin⟩ := q
          obtain ⟨oC, _, _, hoC, _⟩ := id hn
          refine hGG ?_
          clear hGG GG
          obtain ⟨S7, _, hk7⟩ := S₇.unover (fun b hb => by simp at hb; subst hb; exact ⟨_, hoC⟩) fun b o e hb => SE.kept b o e
          refine ⟨mf, hn.at' fun o e => hk7 _ (by simp) o e, fun h' hs => fin _ (Same.mk s₇ h' s₇.toks) (S7.but hCn hBC hs)⟩
    refine codeAny_compStart_list key ((T.W A c.R.handled).self _ _ _ _ st4 key)
  · cases hsc
end
end Mine

namespace Mine
open PySem PySem.Calls PyProof.Rows PySem.W

section
variable {prog : Program} {w : World} {cx : Cx} {h₀ : Heap} {ih : Ev} {n m : Nat}
variable {B : Base} {ρ : List Addr} {H H' H₁ : Hp} {s : Shared} {ae : AEnv} {env : Env} {A : Around} {E : Value → Shared → Prop} {v : AV}

/-! a list is unpacked -/
theorem draw_list {it l : Addr} {items : Array Value} (hne : l ≠ it) : ∀ (n i : Nat) (s : Shared) (Q : List Value → Shared → Prop), s.heap.IsListIter it l i → s.heap.IsList l items → i + n ≤ items.size →
    (∀ h', h'.IsListIter it l (i + n) → Heap.SameBut it s.heap h' → Q ((items.toList.drop i).take n) { s with heap := h' }) → wpAny (model prog w) A (draw (.ref it) n) Q E s
  | 0, i, s, Q, hit, _, _, hQ => by
    show wpAny _ _ (pure []) Q E s
    exact wpAny_pure (by simpa using hQ s.heap hit (Heap.SameBut.refl ..))
  | n + 1, i, s, Q, hit, ht, hle, hQ => by
    have hlt : i < items.size := by omega
    show wpAny _ _ (pyNext (.ref it) >>= _) Q E s
    refine wpAny_bind (wpAny_pyNext_list_item hit ht (x := items[i]) (by simp [hlt]) fun h₁ hit₁ hs₁ => ?_)
    refine wpAny_bind (wpAny_holding (draw_list hne n (i + 1) _ _ hit₁ (ht.extBut hs₁.extBut hne) (by omega) fun h₂ hit₂ hs₂ => wpAny_pure ?_))
    have hd : items.toList.drop i = items[i] :: items.toList.drop (i + 1) := by simp [List.drop_eq_getElem_cons, hlt]
    have := hQ h₂ (by rw [show i + (n + 1) = i + 1 + n by omega]; exact hit₂) (hs₁.trans hs₂)
    rw [hd, List.take_succ_cons] at this
    exact this
theorem unpack_list {t : Addr} {items : Array Value} {targets : List (Bool × (Value → Sem Unit))} {Q : Unit → Shared → Prop} (hh : A.handled = none) (ht : s.heap.IsList t items)
    (hn : targets.length = items.size) (hstar : targets.findIdx? (·.1) = none)
    (h : ∀ h', Heap.ExtBut s.heap.objs.size s.heap h' → wpAny (model prog w) A (assignInOrder (targets.map (·.2)) items.toList) Q E { s with heap := h' }) :
    wpAny (model prog w) A (unpack (.ref t) targets) Q E s := by
  have hlt : t ≠ s.heap.objs.size := by obtain ⟨o, ho, _⟩ := ht; exact Nat.ne_of_lt (Heap.lt_size ho)
  unfold unpack
  rw [hn, hstar]
  refine wpAny_bind (wpAny_holding ?_)
  unfold unpackItems
  refine wpAny_bind ?_
  · unfold notIterableAtAll
    refine wpAny_bind (wpAny_specialOf ht.typeIs slot_list_iter.lookup ?_)
    refine wpAny_pure ?_
    simp only [Bool.false_eq_true, if_false]
    refine wpAny_bind (wpAny_holding (wpAny_pyIter_list ht ?_))
    refine wpAny_bind (wpAny_holding (draw_list hlt items.size 0 _ _ ⟨_, Heap.get?_push_size _ rfl, rfl, rfl⟩ (ht.push _) (by omega) fun h₁ hit₁ hs₁ => ?_))
    have hall : List.take items.size (List.drop 0 items.toList) = items.toList := by
      rw [List.drop_zero]; exact List.take_of_length_le (by simp)
    rw [hall]
    rw [if_neg (by simp)]
    have ht₁ : h₁.IsList t items := (ht.push _).extBut hs₁.extBut hlt
    refine wpAny_bind (wpAny_holding (wpAny_pyNext_list_end hh hit₁ ht₁ (by simp) fun h₂ he₂ => ?_))
    simp only [Option.isSome_none, Bool.false_eq_true, if_false]
    refine wpAny_pure (h h₂ fun b o hb e => he₂ b o hb (hs₁.extBut b o hb (Heap.get?_push_of_some _ e)))
theorem assign_Tuple_list {elts : List PySem.Expr} {x1} {pos : Pos} {t : Addr} {items : Array Value} {Q : Unit → Shared → Prop} (hh : A.handled = none) (ht : s.heap.IsList t items)
    (hn : (assignEach elts env).length = items.size) (hstar : (assignEach elts env).findIdx? (·.1) = none)
    (h : ∀ h', Heap.ExtBut s.heap.objs.size s.heap h' → wpAny (model prog w) A (assignInOrder ((assignEach elts env).map (·.2)) items.toList) Q E { s with heap := h' }) :
    wpAny (model prog w) A (assign (.Tuple elts x1 pos) env (.ref t)) Q E s := by
  rw [arm_assign_Tuple]
  exact wpAny_bind (wpAny_standAt (unpack_list hh ht hn hstar h))

/-! targets -/
theorem names_each : ∀ {elts : List PySem.Expr} {xs : List Str}, namesOf? elts = some xs → (assignEach elts env).length = xs.length ∧ (assignEach elts env).findIdx? (·.1) = none
  | [], xs, h => by cases h; exact ⟨rfl, rfl⟩
  | e :: r, xs, h => by
    refine ooStr h fun x hx h => ooLS h fun l e0 h => ?_
    cases h
    refine hide fun GG hGG => ?_
    obtain ⟨p, rfl⟩ := name?_some hx
    obtain ⟨h1, h2⟩ := names_each e0
    refine hGG ?_
    clear hGG GG
    refine ⟨by show (assignEach r env).length + 1 = _; rw [h1]; rfl, ?_⟩
    show List.findIdx? (·.1) ((false, assign (.Name x p) env) :: assignEach r env) = none
    rw [List.findIdx?_cons]
    simp [h2]
theorem bindAll_sound : ∀ {elts : List PySem.Expr} {xs : List Str} {vs : List AV} {ws : List Value} {H : Hp} {s : Shared}, namesOf? elts = some xs → bindAll ae H xs vs = some H' → VRs ρ vs ws → EnvOk ρ ae env → St B ρ H s →
    wpAny (model prog w) A (assignInOrder ((assignEach elts env).map (·.2)) ws) (fun _ s' => Same s s' ∧ St B ρ H' s') E s
  | [], xs, vs, ws, H, s, h, hb, hv, V, S => by
    cases h
    cases vs with
    | nil => cases hb; exact wpAny_pure ⟨Same.refl _, S⟩
    | cons _ _ => cases hb
  | e :: r, xs, vs, ws, H, s, h, hb, hv, V, S => by
    refine ooStr h fun x hx h => ooLS h fun l e0 h => ?_
    cases h
    obtain ⟨p, rfl⟩ := name?_some hx
    cases vs with
    | nil => cases hb
    | cons a vs =>
      cases ws with
      | nil => exact hv.elim
      | cons u ws =>
        refine ooHp hb ?_
        clear hb; intros; rename_i H1 e1 hb
        show wpAny _ _ (holding ws (assign (.Name x p) env u) >>= fun _ => assignInOrder ((assignEach r env).map (·.2)) ws) _ _ _
        refine wpAny_bind (wpAny_holding (wpAny_assign_Name (wrVar_sound e1 V S hv.1 fun s' sm S' => ?_)))
        exact wpAny_mono (bindAll_sound e0 hb hv.2 V S') (fun _ s'' q => ⟨sm.trans q.1, q.2⟩) fun _ _ e => e
theorem bindAll_len {ae : AEnv} {H' : Hp} : ∀ {xs : List Str} {vs : List AV} {H : Hp}, bindAll ae H xs vs = some H' → xs.length = vs.length
  | [], [], _, _ => rfl
  | [], _ :: _, _, h => ooNo h
  | _ :: _, [], _, h => ooNo h
  | _ :: _, _ :: _, _, h => ooHp h fun _ _ h => congrArg (· + 1) (bindAll_len h)
theorem cTgt_cases (e : PySem.Expr) : cTgt e = .bad ∨ (∃ x p, e = .Name x p ∧ cTgt e = .one x) ∨ ∃ es k p xs, e = .Tuple es k p ∧ namesOf? es = some xs ∧ cTgt e = .many xs := by
  unfold cTgt
  cases h1 : name? e with
  | some x => obtain ⟨p, rfl⟩ := name?_some h1; exact .inr (.inl ⟨x, p, rfl, rfl⟩)
  | none => cases h2 : tup? e with
    | none => exact .inl rfl
    | some es =>
      refine hide fun GG hGG => ?_
      obtain ⟨k, p, rfl⟩ := tup?_some h2
      refine hGG ?_
      clear hGG GG
      cases h3 : namesOf? es with
      | none => simp only [h3]; exact .inl trivial
      | some xs => simp only [h3]; exact .inr (.inr ⟨es, k, p, xs, rfl, h3, rfl⟩)
theorem asg_sound (G : Gd prog w cx h₀) (c : Here h₀ B ρ ae env H s A n) {te : PySem.Expr} {x : Value} (h : take cx ae H v (cTgt te) = some H') (hx : VR ρ v x) :
    wpAny (model prog w) A (assign te env x) (fun _ s' => Same s s' ∧ St B ρ H' s') E s := by
  rcases cTgt_cases te with e | ⟨y, p, rfl, e⟩ | ⟨elts, k, p, ys, rfl, hys, e⟩ <;> rw [e] at h
  · exact ooNo h
  · exact wpAny_assign_Name (wrVar_sound h c.V c.S hx fun s' sm S' => ⟨sm, S'⟩)
  · refine ooLA h fun vs hp h => ?_
    obtain ⟨h1, h2⟩ := names_each (env := env) hys
    have hl := bindAll_len h
    have fin : ∀ {a : Addr} {us : List Value}, s.heap.IsTuple a us.toArray → VRs ρ vs us → wpAny (model prog w) A (assign (.Tuple elts k p) env (.ref a)) (fun _ s' => Same s s' ∧ St B ρ H' s') E s := by
      intro a us ht hv
      refine wpAny_assign_Tuple c.R.handled ht (by rw [h1, hl]; simp [hv.length]) h2 fun h' hx' => ?_
      have S' := c.S.grow (h' := h') (fun b o e => hx' b o (Nat.ne_of_lt (Heap.lt_size e)) e) s.toks
      exact wpAny_mono (bindAll_sound hys h hv c.V S') (fun _ s'' q => ⟨(Same.mk s h' s.toks).trans q.1, q.2⟩) fun _ _ e => e
    have finL : ∀ {a : Addr} {us : List Value}, s.heap.IsList a us.toArray → VRs ρ vs us → wpAny (model prog w) A (assign (.Tuple elts k p) env (.ref a)) (fun _ s' => Same s s' ∧ St B ρ H' s') E s := by
      intro a us ht hv
      refine assign_Tuple_list c.R.handled ht (by rw [h1, hl]; simp [hv.length]) h2 fun h' hx' => ?_
      have S' := c.S.grow (h' := h') (fun b o e => hx' b o (Nat.ne_of_lt (Heap.lt_size e)) e) s.toks
      exact wpAny_mono (bindAll_sound hys h hv c.V S') (fun _ s'' q => ⟨(Same.mk s h' s.toks).trans q.1, q.2⟩) fun _ _ e => e
    cases v with
    | obj j =>
      refine hide fun GG hGG => ?_
      obtain ⟨a, ha, rfl⟩ := hx
      refine hGG ?_
      clear hGG GG
      refine ooSeq (show rdSeq H j = _ from hp) (fun zs e q => ?_) (fun zs e q => ?_) (fun zs e q => ?_) <;> cases q <;> obtain ⟨a', ha', z, us, ht, hv⟩ := c.S.addr e <;> rw [ha] at ha' <;> cases ha'
      · exact finL ht.isList hv
      · exact finL ht.isList hv
      · exact fin ht hv
    | gref a =>
      cases hx
      refine hide fun GG hGG => ?_
      obtain ⟨z, himm, us, ⟨o, ho, r⟩, hv⟩ := G.gtup _ _ hp
      refine hGG ?_
      clear hGG GG
      exact fin ⟨o, c.keep _ _ ho, r⟩ (hv.mono List.nil_prefix)
    | _ => exact ooNo hp

/-! loops -/
theorem forLoop_sound (G : Gd prog w cx h₀) (I : Snd prog w h₀ ih n) {te : PySem.Expr} {body orelse : List Stmt} {k : Nat} {items : List AV} {It0 : Addr} {fp wr : List Addr} {P : Nat → Value → Prop} {Stt : Nat → Heap → Prop} {ρ₂ : List Addr}
    {fr : Option Nat} {fl : AFlow} {R : Result → Shared → Prop}
    (hA : A.handled = none) (T : It prog w B items ρ₂ It0 fp wr P Stt) (p₂ : ρ₂ <+: ρ) (c : Here h₀ B ρ ae env H s A n) (hap : Apart ρ H fp) (hst : Stt 0 s.heap) (ht : Thawed B ρ fr)
    (h : orElse (fun H => ih.x ae H (orelse.map (cS m k))) fr (forGo (fun H v => match take cx ae H v (cTgt te) with | some H1 => ih.x ae H1 (body.map (cS m k)) | none => none) items H) = some (fl, H'))
    (hR : ∀ f s', Post B ρ s H' (FR fl) f s' → R (.ok f) s') :
    codeAny (model prog w) A (.forLoop te (.ref It0) body orelse env) R s := by
  generalize hturn : (fun H v => match take cx ae H v (cTgt te) with | some H1 => ih.x ae H1 (body.map (cS m k)) | none => none) = turn at h
  refine veil (fun (q : Nat) (s' : Shared) => ∃ i Hi ρi, q = items.length + 1 - i ∧ i ≤ items.length ∧ Same s s' ∧ ρ <+: ρi ∧ St B ρi Hi s' ∧ Apart ρi Hi fp ∧ Stt i s'.heap ∧
      orElse (fun H => ih.x ae H (orelse.map (cS m k))) fr (forGo turn (items.drop i) Hi) = some (fl, H')) fun IV mk un => ?_
  refine codeAny_forLoop_any IV ?_ (items.length + 1) (mk _ _ ⟨0, H, ρ, rfl, Nat.zero_le _, Same.refl _, List.prefix_refl _, c.S, hap, hst, h⟩)
  intro q s' iv
  refine hide fun GG hGG => ?_
  obtain ⟨i, Hi, ρi, rfl, hi, sm, p, S, ha, st, hgo⟩ := un _ _ iv
  refine hGG ?_
  clear hGG GG
  clear iv un
  by_cases hlt : i < items.length
  · refine (T.W A hA).item i _ _ _ hlt st fun u h₁ tk₁ hP st₁ hk₁ => ?_
    obtain ⟨a, hia, hav⟩ := T.val i u hP
    rw [drop_cons hia] at hgo
    unfold forGo at hgo
    have S₁ := S.step hk₁ (T.al i _ st) T.nb tk₁
    have S₁o := S₁.over ha
    have hB₁ := over_hB (fp := fp) c.hB S₁
    have V₁ := c.V.mono p
    have c₁ : Here h₀ (B.over fp h₁) ρi ae env Hi { s' with heap := h₁, toks := tk₁ } A n := ⟨hB₁, V₁, S₁o, c.R⟩
    refine T.go _ _ _ _ _ _ _ st₁ ?_
    have unov : ∀ {ρj : List Addr} {Hj : Hp} {sj : Shared}, St (B.over fp h₁) ρj Hj sj → St B ρj Hj sj ∧ Apart ρj Hj fp ∧ Stt (i + 1) sj.heap := by
      intro ρj Hj sj Sj
      obtain ⟨Sb, hapj, hfp⟩ := Sj.unover (T.inn _ _ st₁) fun b o e hb => S₁.kept b o e
      exact ⟨Sb, hapj, (T.W A hA).frame _ _ _ st₁ fun b hb o e => hfp b hb o e⟩
    have hturn' : ∀ H v, turn H v = match take cx ae H v (cTgt te) with | some H1 => ih.x ae H1 (body.map (cS m k)) | none => none := by intro H v; rw [← hturn]
    have go : ∀ {f : AFlow} {Hj : Hp}, turn Hi a = some (f, Hj) → ∀ (Q : Flow → Shared → Prop) (E : Value → Shared → Prop), (∀ g sj ρj, Same s sj → ρ <+: ρj → FR f ρj g → St (B.over fp h₁) ρj Hj sj → Q g sj) →
        wpAny (model prog w) A (assign te env u) (fun _ s₂ => wpAny (model prog w) A (execs body env) Q E s₂) E { s' with heap := h₁, toks := tk₁ } := by
      intro f Hj hf Q E hQ
      rw [hturn'] at hf
      refine ooHp hf ?_
      clear hf; intros; rename_i Ha hta hf
      refine wpAny_mono (asg_sound G c₁ hta (hav.mono (p₂.trans p))) (fun _ s₂ q => ?_) fun _ _ e => e
      obtain ⟨sm₂, S₂⟩ := q
      refine wpAny_mono (I.x m k body ae env _ ρi Ha s₂ A f Hj hf hB₁ V₁ S₂ c.R E) (fun g s₃ q => ?_) fun _ _ e => e
      refine hide fun GG hGG => ?_
      obtain ⟨sm₃, ρ₃, p₃, hg, S₃⟩ := q
      refine hGG ?_
      clear hGG GG
      exact hQ g s₃ ρ₃ (sm.trans ((Same.mk s' h₁ tk₁).trans (sm₂.trans sm₃))) (p.trans p₃) hg S₃
    cases hta : turn Hi a with
    | none => rw [hta] at hgo; simp only [orElse] at hgo; cases hgo
    | some fH =>
      obtain ⟨f, Hj⟩ := fH
      rw [hta] at hgo
      refine go hta _ _ fun g sj ρj smj pj hg Sj => ?_
      obtain ⟨Sb, hapj, stj⟩ := unov Sj
      cases f with
      | next =>
        cases hg
        exact ⟨items.length + 1 - (i + 1), loop_less hlt, mk _ _ ⟨i + 1, Hj, ρj, rfl, hlt, smj, pj, Sb, hapj, stj, hgo⟩⟩
      | cont =>
        cases hg
        exact ⟨items.length + 1 - (i + 1), loop_less hlt, mk _ _ ⟨i + 1, Hj, ρj, rfl, hlt, smj, pj, Sb, hapj, stj, hgo⟩⟩
      | brk =>
        cases hg
        simp only [orElse] at hgo
        refine ooHp hgo ?_
        clear hgo; intros; rename_i H9 hth hgo
        cases hgo
        exact hR _ _ ⟨smj, ρj, pj, rfl, thaw_sound Sb hth (ht.mono pj)⟩
      | ret r =>
        refine hide fun GG hGG => ?_
        obtain ⟨x, rfl, hx⟩ := hg
        refine hGG ?_
        clear hGG GG
        simp only [orElse] at hgo
        refine ooHp hgo ?_
        clear hgo; intros; rename_i H9 hth hgo
        cases hgo
        exact hR _ _ ⟨smj, ρj, pj, ⟨x, rfl, hx⟩, thaw_sound Sb hth (ht.mono pj)⟩
  · have hin : i = items.length := by omega
    subst hin
    rw [List.drop_length] at hgo
    simp only [forGo, orElse] at hgo
    refine (T.W A hA).done _ _ _ st fun h₁ tk₁ hk₁ => ?_
    have S₁ := S.step hk₁ (T.al _ _ st) T.nb tk₁
    refine ooHp hgo ?_
    clear hgo; intros; rename_i H9 hth hgo
    have S₂ := thaw_sound S₁ hth (ht.mono p)
    refine wpAny_mono (I.x m k orelse ae env B ρi H9 _ A fl H' hgo c.hB (c.V.mono p) S₂ c.R _) (fun g s₃ q => ?_) fun _ _ e => e
    exact hR g s₃ (q.up (sm.trans (Same.mk s' h₁ tk₁)) p)
end
end Mine

namespace Mine
open PySem PySem.Calls PyProof.Rows PySem.W

section
variable {prog : Program} {w : World} {cx : Cx} {h₀ : Heap} {ih : Ev} {n m : Nat}
variable {B : Base} {ρ : List Addr} {H H' H₁ : Hp} {s : Shared} {ae : AEnv} {env : Env} {A : Around} {E : Value → Shared → Prop} {v : AV}

theorem while_sound (I : Snd prog w h₀ ih n) {test : PySem.Expr} {body : List Stmt} {k : Nat} {pos : Pos} {fl : AFlow} {N : Nat} (c : Here h₀ B ρ ae env H s A n)
    (h : whileGo (fun H => ih.t ae H (cE m test)) (fun H => ih.x ae H (body.map (cS m k))) N H = some (fl, H')) : wpAny (model prog w) A (exec (.While test body [] pos) env) (Post B ρ s H' (FR fl)) E s := by
  refine wpAny_While ?_
  refine veil (fun (q : Nat) (s' : Shared) => ∃ Hi ρi, Same s s' ∧ ρ <+: ρi ∧ St B ρi Hi s' ∧ whileGo (fun H => ih.t ae H (cE m test)) (fun H => ih.x ae H (body.map (cS m k))) q Hi = some (fl, H')) fun IV mk un => ?_
  refine codeAny_whileLoop IV ?_ N (mk _ _ ⟨H, ρ, Same.refl _, List.prefix_refl _, c.S, h⟩)
  intro q s' iv
  refine hide fun GG hGG => ?_
  obtain ⟨Hi, ρi, sm, p, S, hgo⟩ := un _ _ iv
  refine hGG ?_
  clear hGG GG
  clear iv un
  cases q with
  | zero => cases hgo
  | succ q =>
    have ci := c.next p S
    refine ooFTs hgo ?_ ?_
    · clear hgo; intros; rename_i H1 h1 hgo
      cases hgo
      refine nxt (goT I ci h1) fun b s₁ ρ₁ sm₁ p₁ hb S₁ => ?_
      subst hb
      simp only [Bool.false_eq_true, if_false]
      exact wpAny_execs_nil (.up (sm.trans sm₁) (p.trans p₁) (.here (Same.refl _) rfl S₁))
    · clear hgo; intros; rename_i H1 h1 hgo
      refine nxt (goT I ci h1) fun b s₁ ρ₁ sm₁ p₁ hb S₁ => ?_
      subst hb
      simp only [if_true]
      cases hb : ih.x ae H1 (body.map (cS m k)) with
      | none => simp only [hb] at hgo; cases hgo
      | some fH =>
        obtain ⟨f, H2⟩ := fH
        simp only [hb] at hgo
        refine wpAny_mono (I.x m k body ae env B ρ₁ H1 s₁ A f H2 hb c.hB (c.V.mono (p.trans p₁)) S₁ c.R _) (fun g s₂ q' => ?_) fun _ _ e => e
        refine hide fun GG hGG => ?_
        obtain ⟨sm₂, ρ₂, p₂, hg, S₂⟩ := q'
        refine hGG ?_
        clear hGG GG
        have sms := sm.trans (sm₁.trans sm₂)
        have ps := p.trans (p₁.trans p₂)
        cases f with
        | next => cases hg; exact ⟨q, Nat.lt_succ_self _, mk _ _ ⟨H2, ρ₂, sms, ps, S₂, hgo⟩⟩
        | cont => cases hg; exact ⟨q, Nat.lt_succ_self _, mk _ _ ⟨H2, ρ₂, sms, ps, S₂, hgo⟩⟩
        | brk => cases hg; cases hgo; exact ⟨sms, ρ₂, ps, rfl, S₂⟩
        | ret r => obtain ⟨x, rfl, hx⟩ := hg; cases hgo; exact ⟨sms, ρ₂, ps, ⟨x, rfl, hx⟩, S₂⟩

theorem if_sound (I : Snd prog w h₀ ih n) {test : PySem.Expr} {a b : List Stmt} {k : Nat} {pos : Pos} {fl : AFlow} (c : Here h₀ B ρ ae env H s A n)
    (h : sIf ih ae H (cE m test) (a.map (cS m k)) (b.map (cS m k)) = some (fl, H')) : wpAny (model prog w) A (exec (.If test a b pos) env) (Post B ρ s H' (FR fl)) E s := by
  refine ooTF h ?_ ?_
  · clear h; intros; rename_i H1 h1 h
    refine wpAny_If (nxt (goT I c h1) fun x s₁ ρ₁ sm p hx S₁ => ?_)
    subst hx
    exact lift sm p (I.x m k a ae env B ρ₁ H1 s₁ A fl H' h c.hB (c.V.mono p) S₁ c.R E)
  · clear h; intros; rename_i H1 h1 h
    refine wpAny_If (nxt (goT I c h1) fun x s₁ ρ₁ sm p hx S₁ => ?_)
    subst hx
    exact lift sm p (I.x m k b ae env B ρ₁ H1 s₁ A fl H' h c.hB (c.V.mono p) S₁ c.R E)

theorem ret_sound (I : Snd prog w h₀ ih n) {e : PySem.Expr} {pos : Pos} {fl : AFlow} (c : Here h₀ B ρ ae env H s A n) (h : sReturn ih ae H (cE m e) = some (fl, H')) :
    wpAny (model prog w) A (exec (.Return (some e) pos) env) (Post B ρ s H' (FR fl)) E s := by
  refine ooP h ?_
  clear h; intros; rename_i u H1 h1 h
  cases h
  exact wpAny_Return_some (nxt (goE I c h1) fun x s₁ ρ₁ sm p hx S₁ => .up sm p (.here (Same.refl _) ⟨x, rfl, hx⟩ S₁))

theorem swaps_plain {e : PySem.Expr} {t : Option PySem.Expr} {l : Nat} (I : Snd prog w h₀ ih n) {q : AV × Hp} (h : ih.e ae H (cE m e) = some q) (hl : ∀ a b c d, e ≠ .ListComp a b c d) : swapsWith e t l env = pure false := by
  have bad : cE m e ≠ .bad := fun hb => by rw [hb, I.nb] at h; cases h
  cases e <;> first | rfl | exact absurd rfl (hl _ _ _ _) | (exfalso; apply bad; cases m <;> rfl)

theorem noRef_of {u : AV} {x : Value} (hr : isRef u = false) (hx : VR ρ u x) : ∀ a, x ≠ .ref a := by
  intro a e
  subst e
  cases u with
  | none => cases hx
  | bool _ => cases hx
  | int _ => obtain ⟨t, e⟩ := hx; cases e
  | str _ => obtain ⟨_, t, e⟩ := hx; cases e
  | bi b => cases b <;> cases hx
  | _ => cases hr
theorem exprS_sound (I : Snd prog w h₀ ih n) {g : PySem.Expr} {args : List PySem.Expr} {kw : List Keyword} {cp pos : Pos} {fl : AFlow} (c : Here h₀ B ρ ae env H s A n) (h : sExpr ih ae H (cE m (.Call g args kw cp)) = some (fl, H')) :
    wpAny (model prog w) A (exec (.Expr (.Call g args kw cp) pos) env) (Post B ρ s H' (FR fl)) E s := by
  refine ooP h ?_
  clear h; intros; rename_i u H1 h1 h
  refine ooF h ?_
  clear h; intros; rename_i hr h
  cases h
  refine wpAny_Expr (nxt (goE I c h1) fun x s₁ ρ₁ sm p hx S₁ => ?_) (by unfold interactive; rw [c.V.kind]; rfl) rfl
  have fin : Post B ρ s H' (FR .next) .next s₁ := .up sm p (.here (Same.refl _) rfl S₁)
  have hne : ∀ a, x ≠ .ref a := noRef_of hr hx
  cases x <;> first | exact fin | exact (hne _ rfl).elim

theorem aug_sound (G : Gd prog w cx h₀) (I : Snd prog w h₀ ih n) {x : Str} {e : PySem.Expr} {p pos : Pos} {fl : AFlow} (c : Here h₀ B ρ ae env H s A n) (h : sAug cx ih ae H x (cE m e) = some (fl, H')) :
    wpAny (model prog w) A (exec (.AugAssign (.Name x p) .Add e pos) env) (Post B ρ s H' (FR fl)) E s := by
  refine ooStrO h ?_
  clear h; intros; rename_i a ha h
  refine ooStrP h ?_
  clear h; intros; rename_i b H1 h1 h
  refine ooAV h ?_
  clear h; intros; rename_i v hv h
  refine ooHp h ?_
  clear h; intros; rename_i H2 h2 h
  cases h
  obtain ⟨hz, rfl⟩ := mkS_some hv
  refine wpAny_AugAssign_Name (rdVar_sound G ha c.hB c.V c.S fun u hu => nxt (goE I c h1) fun y s₁ ρ₁ sm p hy S₁ => ?_)
  refine hide fun GG hGG => ?_
  obtain ⟨z, t, rfl⟩ := hu
  obtain ⟨z', t', rfl⟩ := hy
  refine hGG ?_
  clear hGG GG
  have hs : lim + lim ≤ sizeLine := by rw [sizeLine_eq]; decide
  refine iadd_str (hsz := by show a.cps.size + b.cps.size ≤ _; omega) fun t' tk => ?_
  have hr : VR ρ₁ (.str ⟨⟨a.cps.toList ++ b.cps.toList⟩⟩) (.str (a ++ b) t') := ⟨by simpa using hz, t', by congr 1; exact Str.ext' (by show (a.cps ++ b.cps) = _; simp)⟩
  refine wrVar_sound h2 (c.V.mono p) (S₁.toks tk) hr fun s' sm' S' => ?_
  exact .up (sm.trans ((Same.mk s₁ s₁.heap tk).trans sm')) p (.here (Same.refl _) rfl S')

theorem cAsg_cases (f : PySem.Expr → X) (e t : PySem.Expr) : cAsg f e t = .bad ∨ (∃ x p, t = .Name x p ∧ cAsg f e t = .asg (.one x) (f e)) ∨
    ∃ es k p xs, t = .Tuple es k p ∧ unpackable e = true ∧ namesOf? es = some xs ∧ cTgt t = .many xs ∧ cAsg f e t = .asg (.many xs) (f e) := by
  unfold cAsg
  cases h1 : name? t with
  | some x => obtain ⟨p, rfl⟩ := name?_some h1; exact .inr (.inl ⟨x, p, rfl, rfl⟩)
  | none => cases h2 : tup? t with
    | none => exact .inl rfl
    | some es =>
      refine hide fun GG hGG => ?_
      obtain ⟨k, p, rfl⟩ := tup?_some h2
      refine hGG ?_
      clear hGG GG
      cases h3 : namesOf? es with
      | none => simp only [h3]; exact .inl trivial
      | some xs => cases h4 : unpackable e with
        | false => simp only [h3, h4]; exact .inl trivial
        | true =>
          have h5 : cTgt (.Tuple es k p) = .many xs := by unfold cTgt; rw [h1, h2]; simp only [h3]
          simp only [h3, h4]; exact .inr (.inr ⟨es, k, p, xs, rfl, trivial, h3, h5, rfl⟩)
theorem assign_sound (G : Gd prog w cx h₀) (I : Snd prog w h₀ ih n) {t e : PySem.Expr} {pos : Pos} {fl : AFlow} (c : Here h₀ B ρ ae env H s A n) (h : stepS cx ih ae H (cAsg (cE m) e t) = some (fl, H')) :
    wpAny (model prog w) A (exec (.Assign [t] e pos) env) (Post B ρ s H' (FR fl)) E s := by
  rcases cAsg_cases (cE m) e t with q | ⟨x, p, rfl, q⟩ | ⟨elts, k, p, xs, rfl, hun, hxs, ht, q⟩ <;> rw [q] at h <;> clear q
  · exact ooNo h
  · have h : sAssign cx ih ae H (.one x) (cE m e) = _ := h
    refine ooP h ?_
    clear h; intros; rename_i u H1 h1 h
    refine ooHp h ?_
    clear h; intros; rename_i H2 h2 h
    cases h
    have h2' : wrVar ae H1 x u = some H' := h2
    have plain : swapsWith e (some (.Name x p)) pos.line env = pure false → wpAny (model prog w) A (exec (.Assign [.Name x p] e pos) env) (Post B ρ s H' (FR .next)) E s := by
      intro hs
      refine wpAny_Assign_Name (nxt (goE I c h1) fun y s₁ ρ₁ sm p₁ hy S₁ => ?_) hs
      exact wrVar_sound h2' (c.V.mono p₁) S₁ hy fun s' sm' S' => .up (sm.trans sm') p₁ (.here (Same.refl _) rfl S')
    by_cases hl : ∃ a b d q, e = .ListComp a b d q
    · refine hide fun GG hGG => ?_
      obtain ⟨elt, gens, scope, q, rfl⟩ := hl
      refine hGG ?_
      clear hGG GG
      cases hb : (env.blockKind == .function && env.kindOf x == some .local && p.line == q.line && !(scope.names.any fun (n, k) => n == x && (k == .local || k == .cell))) with
      | false => exact plain (by show (pure _ : Sem Bool) = _; rw [← hb]; rfl)
      | true =>
        have hs : swapsWith (.ListComp elt gens scope q) (some (.Name x p)) pos.line env = pure true := by show (pure _ : Sem Bool) = _; rw [← hb]; rfl
        rw [exec_Assign_Name_used _ _ _ _ hs]
        refine wpAny_bind (wpAny_standAt (wpAny_bind ?_))
        refine I.u m elt gens scope q ae env B ρ H s A u H1 h1 c.hB c.V c.S c.R E (assign (.Name x p) env) _ ?_
        intro B' y s₁ ρ₁ hBB sm p₁ hy S₁
        refine wpAny_assign_Name (wrVar_sound h2' (c.V.mono p₁) S₁ hy fun s' sm' S' => ⟨H', sm', S', fun s₃ sm₃ S₃ => wpAny_pure ?_⟩)
        exact ⟨sm.trans (sm'.trans sm₃), ρ₁, p₁, rfl, S₃⟩
    · exact plain (swaps_plain I h1 fun a b d q he => hl ⟨a, b, d, q, he⟩)
  · refine ooP (show sAssign cx ih ae H (.many xs) (cE m e) = _ from h) fun u H1 h1 h => ooHp h fun H2 h2 h => ?_
    cases h
    have ht : take cx ae H1 u (cTgt (.Tuple elts k p)) = some H' := by rw [ht]; exact h2
    have hsw : swapsWithSole [.Tuple elts k p] e pos.line env = pure false ∧ swappedStores [.Tuple elts k p] e env = pure none := by
      cases e <;> first | exact ⟨rfl, rfl⟩ | exact ff hun
    refine wpAny_Assign_stores (nxt (goE I c h1) fun y s₁ ρ₁ sm p₁ hy S₁ => ?_) hsw.1 hsw.2
    show wpAny _ _ (assign (.Tuple elts k p) env y) _ _ _
    exact wpAny_mono (asg_sound G (c.next p₁ S₁) ht hy) (fun _ s' q => .up (sm.trans q.1) p₁ (.here (Same.refl _) rfl q.2)) fun _ _ e => e

theorem for_sound (G : Gd prog w cx h₀) (I : Snd prog w h₀ ih n) {te iter : PySem.Expr} {body orelse : List Stmt} {k : Nat} {pos : Pos} {fl : AFlow} (c : Here h₀ B ρ ae env H s A n)
    (h : sFor cx ih ae H (cTgt te) (cE m iter) (body.map (cS m k)) (orelse.map (cS m k)) = some (fl, H')) : wpAny (model prog w) A (exec (.For te iter body orelse pos) env) (Post B ρ s H' (FR fl)) E s := by
  refine ooIt h ?_
  clear h; intros; rename_i items fr H1 hit h
  refine wpAny_For (wpAny_mono (items_sound G I c hit) (fun xv s₁ h₁ => wpAny_mono h₁ (fun it s₂ h₂ => ?_) fun _ _ e => e) fun _ _ e => e) (noSet I hit)
  refine hide fun GG hGG => ?_
  obtain ⟨ρ₀, s₀, sm₀, p₀, ht, It0, fp, wr, P, Stt, ρ₂, rfl, T, st, sm₂, p₂, S₂, hap⟩ := h₂
  refine hGG ?_
  clear hGG GG
  exact forLoop_sound G I c.R.handled T (List.prefix_refl _) (c.next (p₀.trans p₂) S₂) hap st (ht.mono p₂) h fun f s' q => q.up (sm₀.trans sm₂) (p₀.trans p₂)
end
end Mine

namespace Mine
open PySem PySem.Calls PyProof.Rows PySem.W

section
variable {prog : Program} {w : World} {cx : Cx} {h₀ : Heap} {ih : Ev} {n m : Nat}
variable {B : Base} {ρ : List Addr} {H H' H₁ : Hp} {s : Shared} {ae : AEnv} {env : Env} {A : Around} {E : Value → Shared → Prop} {v : AV}

theorem e_sound (G : Gd prog w cx h₀) (I : Snd prog w h₀ ih n) (hr : cx.r ≤ n) : Snd1 prog w h₀ (stepE cx ih) (n + 1) := by
  intro m e ae env B ρ H s A v H' h hB hV hS hR E
  have c : Here h₀ B ρ ae env H s A n := ⟨hB, hV, hS, hR.le (Nat.le_succ n)⟩
  cases m with
  | zero => cases h
  | succ m =>
    rw [cE_succ] at h
    cases e with
    | Constant k t p => exact e_const (cx := cx) (ih := ih) c h
    | Name x p => exact eName_sound G c h fun hH u hu => hH ▸ .here (Same.refl _) hu c.S
    | BoolOp op vs p =>
      rw [arm_eval_BoolOp]
      exact bool_sound I vs c h
    | BinOp l op r p => exact e_bin I c h
    | UnaryOp op a p =>
      exact cUn_elim (P := fun x => stepE cx ih ae H x = some (v, H')) h (fun h => ooNo h) (fun e hf => by subst e; exact e_not I c hf) fun e hf => by subst e; exact e_neg I c hf
    | IfExp a b d p => exact e_ite I c h
    | List es p => exact e_list I c h
    | Tuple es k p => exact e_tup I c h
    | Compare l ops rs p =>
      refine cCmp_elim (P := fun x => stepE cx ih ae H x = some (v, H')) h (fun h => ooNo h) fun op r e1 e2 hf => ?_
      subst e1 e2
      refine ooQ hf fun b H1 h1 hf => ?_
      cases hf
      exact e_cmp I c h1
    | ListComp elt gens scope p =>
      refine cComp_elim (P := fun x => stepE cx ih ae H x = some (v, H')) h (fun h => ooNo h) fun x px iter ifs e hsc hf => ?_
      subst e
      show wpAny _ _ (comprehension _ scope env _ (newList []) false (eval iter env)) _ _ _
      exact comp_sound G I c hsc hf fun x s' q => q
    | Subscript o i p =>
      exact cSub_elim (P := fun x => stepE cx ih ae H x = some (v, H')) h (fun h => ooNo h) (fun _ _ _ e hf => by subst e; exact e_slice I c hf) (fun _ _ _ _ e hf => by subst e; exact e_rev I c hf) fun h => e_item I c h
    | Call g args kw p =>
      exact cCall_elim (P := fun x => stepE cx ih ae H x = some (v, H')) h (fun h => ooNo h) (fun x q e1 e2 hf => by subst e1 e2; exact e_call G I hr c hf) fun o name apos mt e1 e2 hl hn hs hf => by subst e1 e2; exact e_meth I c hl hn hs hf
    | _ => exact ooNo h

theorem use_sound (G : Gd prog w cx h₀) (I : Snd prog w h₀ ih n) : Snd5 prog w h₀ (stepE cx ih) (n + 1) := by
  intro m elt gens scope pos ae env B ρ H s A v H' h hB hV hS hR E u Q hQ
  have c : Here h₀ B ρ ae env H s A n := ⟨hB, hV, hS, hR.le (Nat.le_succ n)⟩
  cases m with
  | zero => exact ooNo h
  | succ m =>
    · refine cComp_elim (P := fun x => stepE cx ih ae H x = some (v, H')) h (fun h => ooNo h) fun x px iter ifs e hsc hf => ?_
      subst e
      show wpAny _ _ (do let _ ← comprehension _ scope env _ (newList []) false (eval iter env) (some u)) _ _ _
      exact wpAny_bind (wpAny_mono (comp_sound (use := some u) (Q := fun _ s' => Q () s') G I c hsc hf hQ) (fun _ s' q => wpAny_pure q) fun _ _ e => e)

theorem whole_sound (I : Snd prog w h₀ ih n) {e : PySem.Expr} {b : Bool} (c : Here h₀ B ρ ae env H s A n) (h : tWhole ih ae H (cE m e) = some (b, H'))
    (he : isTrue e env (eval e env) = (do let v ← eval e env; standAt e.pos; holding [v] (truthy v))) : wpAny (model prog w) A (isTrue e env (eval e env)) (Post B ρ s H' fun _ x => x = b) E s := by
  · refine ooP h fun u H1 h1 h => ooB h fun t ht h => ?_
    · cases h
      exact wpAny_isTrue_value (nxt (goE I c h1) fun x s₁ ρ₁ sm p hx S₁ => truth_sound S₁ ht hx fun tk => .up (sm.trans (Same.mk s₁ s₁.heap tk)) p (.here (Same.refl _) rfl (S₁.toks tk))) he
theorem all_sound (I : Snd prog w h₀ ih n) {op : BoolOp} {b : Bool} : ∀ (es : List PySem.Expr) {ρ : List Addr} {H : Hp} {s : Shared}, Here h₀ B ρ ae env H s A n → allTruth (ih.t ae) op (es.map (cE m)) H = some (b, H') →
    wpAny (model prog w) A (allTrue op es env) (Post B ρ s H' fun _ x => x = b) E s
  | [], ρ, H, s, c, h => by
    cases op <;> cases h
    · exact wpAny_allTrue_And_nil (.here (Same.refl _) rfl c.S)
    · exact wpAny_allTrue_Or_nil (.here (Same.refl _) rfl c.S)
  | e :: r, ρ, H, s, c, h => by
    · refine ooQ h fun t H1 h1 h => ?_
      cases op
      · refine wpAny_allTrue_And_cons (nxt (goT I c h1) fun x s₁ ρ₁ sm p hx S₁ => ?_)
        subst hx
        cases x
        · cases h
          simp only [Bool.false_eq_true, if_false]
          exact .up sm p (.here (Same.refl _) rfl S₁)
        · simp only [if_true]
          exact lift sm p (all_sound I r (c.next p S₁) h)
      · refine wpAny_allTrue_Or_cons (nxt (goT I c h1) fun x s₁ ρ₁ sm p hx S₁ => ?_)
        subst hx
        cases x
        · simp only [Bool.false_eq_true, if_false]
          exact lift sm p (all_sound I r (c.next p S₁) h)
        · cases h
          simp only [if_true]
          exact .up sm p (.here (Same.refl _) rfl S₁)

theorem t_sound (I : Snd prog w h₀ ih n) : Snd2 prog w h₀ (stepT ih) (n + 1) := by
  intro m e ae env B ρ H s A b H' h hB hV hS hR E
  have c : Here h₀ B ρ ae env H s A n := ⟨hB, hV, hS, hR.le (Nat.le_succ n)⟩
  cases m with
  | zero => cases h
  | succ m =>
    cases e with
    | Constant k t p =>
      exact cConst_elim (P := fun x => stepT ih ae H x = some (b, H')) h (fun h => ooNo h) fun _ h => ooNo h
    | Name x p => exact whole_sound (m := m + 1) I c h rfl
    | BoolOp op vs p => exact wpAny_isTrue_BoolOp (all_sound I vs c h)
    | BinOp l op r p => exact whole_sound (m := m + 1) I c h rfl
    | UnaryOp op a p =>
      refine cUn_elim (P := fun x => stepT ih ae H x = some (b, H')) h (fun h => ooNo h) (fun e hf => ?_) fun _ h => ooNo h
      · subst e
        cases ht : ih.t ae H (cE m a) with
        | none =>
          have h : tNot (ih.t ae H (cE m a)) = some (b, H') := h
          rw [ht] at h; exact ooNo h
        | some q =>
          obtain ⟨t, H1⟩ := q
          have h : tNot (ih.t ae H (cE m a)) = some (b, H') := h
          rw [ht] at h
          cases h
          exact wpAny_isTrue_Not (wpAny_mono (goT I c ht) (fun x s₁ q => by
            refine hide fun GG hGG => ?_
            obtain ⟨sm, ρ₁, p, hx, S₁⟩ := q
            refine hGG ?_
            clear hGG GG
            exact ⟨sm, ρ₁, p, by rw [hx], S₁⟩) fun _ _ e => e)
    | Compare l ops rs p =>
      exact cCmp_elim (P := fun x => stepT ih ae H x = some (b, H')) h (fun h => ooNo h) fun op r e1 e2 hf => by subst e1 e2; exact t_cmp I c hf
    | ListComp elt gens scope p =>
      exact cComp_elim (P := fun x => stepT ih ae H x = some (b, H')) h (fun h => ooNo h) fun _ _ _ _ _ _ h => ooNo h
    | Subscript o i p =>
      exact cSub_elim (P := fun x => stepT ih ae H x = some (b, H')) h (fun h => ooNo h) (fun _ _ _ _ h => ooNo h) (fun _ _ _ _ _ h => ooNo h) fun h => ooNo h
    | Call g args kw p =>
      have go : tWhole ih ae H (cCall0 (cE m) g args kw p) = some (b, H') := cCall_elim (P := fun x => stepT ih ae H x = some (b, H') ∧ x = cCall0 (cE m) g args kw p) ⟨h, rfl⟩ (fun h => ooNo h.1) (fun _ _ _ _ h => h.2 ▸ h.1) fun _ _ _ _ _ _ _ _ _ h => h.2 ▸ h.1
      refine whole_sound (m := m + 1) (e := .Call g args kw p) I c go rfl
    | _ => exact ooNo h

noncomputable def EnumSnd (prog : Program) (w : World) (cx : Cx) (h₀ : Heap) (ih : Ev) (n : Nat) : Prop :=
  ∀ (m k : Nat) (x y : Str) (src : PySem.Expr) (body els : List Stmt) (px py fp cp tp pos : Pos) (tk : Nat) (ae : AEnv) (env : Env) (B : Base) (ρ : List Addr) (H : Hp) (s : Shared) (A : Around) (fl : AFlow) (H' : Hp) (E : Value → Shared → Prop),
    Here h₀ B ρ ae env H s A n → sEnum cx ih ae H x y (cE m src) (body.map (cS m k)) (els.map (cS m k)) = some (fl, H') →
    wpAny (model prog w) A (exec (.For (.Tuple [.Name x px, .Name y py] tk tp) (.Call (.Name enumName fp) [src] [] cp) body els pos) env) (Post B ρ s H' (FR fl)) E s

theorem two?_some {t : PySem.Expr} {x y : Str} (h : two? t = some (x, y)) : ∃ px py k p, t = .Tuple [.Name x px, .Name y py] k p := by
  unfold two? at h
  cases h1 : tup? t with
  | none => rw [h1] at h; exact ooNo h
  | some es =>
    refine hide fun GG hGG => ?_
    obtain ⟨k, p, rfl⟩ := tup?_some h1
    refine hGG ?_
    clear hGG GG
    rw [h1] at h
    refine ooLS h fun l hl h => ?_
    cases l with
    | nil => exact ooNo h
    | cons a r =>
      refine ooStr h fun b hb h => ?_
      cases h
      rw [one?_some hb] at hl
      cases es with
      | nil => cases hl
      | cons e es =>
        refine ooStr hl fun x' hx hl => ooLS hl fun l0 hl0 hl => ?_
        cases hl
        obtain ⟨px, rfl⟩ := name?_some hx
        cases es with
        | nil => cases hl0
        | cons e es =>
          refine ooStr hl0 fun y' hy hl0 => ooLS hl0 fun l1 hl1 hl0 => ?_
          cases hl0
          obtain ⟨py, rfl⟩ := name?_some hy
          cases es with
          | nil => exact ⟨px, py, k, p, rfl⟩
          | cons e es => exact ooStr hl1 fun _ _ hl1 => ooLS hl1 fun _ _ hl1 => by cases hl1
theorem enumOf?_some {e src : PySem.Expr} (h : enumOf? e = some src) : ∃ fp p, e = .Call (.Name enumName fp) [src] [] p := by
  unfold enumOf? at h
  cases h1 : call? e with
  | none => rw [h1] at h; exact ooNo h
  | some q =>
    refine hide fun GG hGG => ?_
    obtain ⟨g, args, kw⟩ := q
    obtain ⟨p, rfl⟩ := call?_some h1
    refine hGG ?_
    clear hGG GG
    rw [h1] at h
    refine ooStr h fun x hx h => ooT h fun hc hf => ?_
    rw [Bool.and_eq_true] at hc
    obtain ⟨fp, rfl⟩ := name?_some hx
    rw [nil_of hc.1, one?_some hf, seq_iff.mp hc.2]
    exact ⟨fp, p, rfl⟩

theorem s_sound (G : Gd prog w cx h₀) (I : Snd prog w h₀ ih n) (EN : EnumSnd prog w cx h₀ ih n) {st : Stmt} {k : Nat} {fl : AFlow} (c : Here h₀ B ρ ae env H s A n) (h : stepS cx ih ae H (cS m k st) = some (fl, H')) :
    wpAny (model prog w) A (exec st env) (Post B ρ s H' (FR fl)) E s := by
  cases k with
  | zero => cases h
  | succ k =>
    rw [show cS m (k + 1) st = cS1 (cE m) (cS m k) st from rfl] at h
    cases st with
    | Expr e p =>
      have h : stepS cx ih ae H (cExpr (cE m) e) = _ := h
      unfold cExpr at h
      cases hq : call? e with
      | none => rw [hq] at h; exact ooNo h
      | some q =>
        refine hide fun GG hGG => ?_
        obtain ⟨g, args, kw⟩ := q
        rw [hq] at h
        obtain ⟨cp, rfl⟩ := call?_some hq
        refine hGG ?_
        clear hGG GG
        exact exprS_sound I c h
    | Return e p =>
      cases e with
      | some e => exact ret_sound I c h
      | none => exact ooNo h
    | Assign ts e p =>
      have h : stepS cx ih ae H (cAsgs (cE m) ts e) = _ := h
      unfold cAsgs at h
      cases ho : one? ts with
      | none => rw [ho] at h; exact ooNo h
      | some t =>
        rw [ho] at h
        rw [one?_some ho]
        exact assign_sound G I c h
    | AugAssign t op e p =>
      have h : stepS cx ih ae H (cAug (cE m) t op e) = _ := h
      unfold cAug at h
      cases ho : name? t with
      | none => rw [ho] at h; exact ooNo h
      | some x =>
        rw [ho] at h
        obtain ⟨px, rfl⟩ := name?_some ho
        cases op with
        | Add => exact aug_sound G I c h
        | _ => exact ooNo h
    | If t a b p => exact if_sound I c h
    | While t a b p =>
      cases b with
      | nil => exact while_sound I c h
      | cons _ _ => exact ooNo h
    | For t i body els p =>
      have h : stepS cx ih ae H (cFor (cE m) t i (body.map (cS m k)) (els.map (cS m k))) = _ := h
      unfold cFor at h
      cases he : enumOf? i with
      | none => rw [he] at h; exact for_sound G I c h
      | some src =>
        rw [he] at h
        cases h2 : two? t with
        | none => simp only [h2] at h; exact ooNo h
        | some q =>
          refine hide fun GG hGG => ?_
          obtain ⟨x, y⟩ := q
          simp only [h2] at h
          obtain ⟨px, py, tk, tp, rfl⟩ := two?_some h2
          obtain ⟨fp, cp, rfl⟩ := enumOf?_some he
          refine hGG ?_
          clear hGG GG
          exact EN _ _ _ _ _ _ _ _ _ _ _ _ _ _ _ _ _ _ _ _ _ _ _ _ c h
    | Try body hs els fin p =>
      have h : stepS cx ih ae H (cTry (body.map (cS m k)) hs els fin) = _ := h
      unfold cTry at h
      cases hc : (!hs.isEmpty && els.isEmpty && fin.isEmpty) with
      | false => rw [hc] at h; exact ooNo h
      | true =>
        rw [hc] at h
        have hf : ih.x ae H (body.map (cS m k)) = some (fl, H') := h
        clear h
        rw [Bool.and_eq_true, Bool.and_eq_true] at hc
        obtain ⟨⟨h1, h2⟩, h3⟩ := hc
        rw [nil_of h2, nil_of h3]
        cases hs with
        | nil => exact ff h1
        | cons h0 hs =>
          refine wpAny_Try_except ?_
          refine wpAny_mono (I.x m k body ae env B ρ H s A fl H' hf c.hB c.V c.S c.R _) (fun f s₁ q => ?_) fun _ _ e => e
          refine hide fun GG hGG => ?_
          obtain ⟨sm, ρ₁, p, hf, S₁⟩ := q
          refine hGG ?_
          clear hGG GG
          cases f with
          | next => exact wpAny_execs_nil ⟨sm, ρ₁, p, hf, S₁⟩
          | _ => exact ⟨sm, ρ₁, p, hf, S₁⟩
    | Pass p => cases h; exact wpAny_Pass (.here (Same.refl _) rfl c.S)
    | Break p => cases h; exact wpAny_Break (.here (Same.refl _) rfl c.S)
    | Continue p => cases h; exact wpAny_Continue (.here (Same.refl _) rfl c.S)
    | _ => exact ooNo h

theorem x_sound (G : Gd prog w cx h₀) (I : Snd prog w h₀ ih n) (EN : EnumSnd prog w cx h₀ ih n) : Snd3 prog w h₀ (stepX cx ih) (n + 1) := by
  intro m k body ae env B ρ H s A fl H' h hB hV hS hR E
  have c : Here h₀ B ρ ae env H s A n := ⟨hB, hV, hS, hR.le (Nat.le_succ n)⟩
  cases body with
  | nil => cases h; exact wpAny_execs_nil (.here (Same.refl _) rfl c.S)
  | cons st rest =>
    have h : (match stepS cx ih ae H (cS m k st) with | some (.next, H1) => ih.x ae H1 (rest.map (cS m k)) | x => x) = some (fl, H') := h
    refine wpAny_execs_cons ?_
    cases hs : stepS cx ih ae H (cS m k st) with
    | none => rw [hs] at h; cases h
    | some fH =>
      obtain ⟨f, H1⟩ := fH
      rw [hs] at h
      refine wpAny_mono (s_sound G I EN c hs) (fun g s₁ q => ?_) fun _ _ e => e
      refine hide fun GG hGG => ?_
      obtain ⟨sm, ρ₁, p, hg, S₁⟩ := q
      refine hGG ?_
      clear hGG GG
      cases f with
      | next =>
        cases hg
        exact lift sm p (I.x m k rest ae env B ρ₁ H1 s₁ A fl H' h hB (hV.mono p) S₁ c.R E)
      | cont => cases hg; cases h; exact ⟨sm, ρ₁, p, rfl, S₁⟩
      | brk => cases hg; cases h; exact ⟨sm, ρ₁, p, rfl, S₁⟩
      | ret r => obtain ⟨x, rfl, hx⟩ := hg; cases h; exact ⟨sm, ρ₁, p, ⟨x, rfl, hx⟩, S₁⟩

theorem step_sound (G : Gd prog w cx h₀) (I : Snd prog w h₀ ih n) (EN : EnumSnd prog w cx h₀ ih n) (hr : cx.r ≤ n) : Snd prog w h₀ (step cx ih) (n + 1) :=
  ⟨e_sound G I hr, t_sound I, x_sound G I EN, c_sound G I, use_sound G I, fun _ _ => rfl, c_fn G⟩
end
end Mine

namespace Mine
open PySem PySem.Calls PyProof.Rows PySem.W

section
variable {prog : Program} {w : World} {A : Around} {E : Value → Shared → Prop} {s : Shared}
theorem nextOf_tuple_item {it t : Addr} {i : Nat} {items : Array Value} {x : Value} {Q : Value → Shared → Prop} (hit : s.heap.IsTupleIter it t i)
    (ht : s.heap.IsTuple t items) (hx : items[i]? = some x)
    (hQ : ∀ h', h'.IsTupleIter it t (i + 1) → Heap.SameBut it s.heap h' → Q x { s with heap := h' }) :
    wpAny (model prog w) A (Builtin.SmallTypes.nextOf (.ref it)) Q E s := by
  refine hide fun GG hGG => ?_
  obtain ⟨o, ho, hc, hd⟩ := id hit
  obtain ⟨ol, hol, _, nl, hdl⟩ := ht
  refine hGG ?_
  clear hGG GG
  unfold Builtin.SmallTypes.nextOf
  refine wpAny_bind (wpAny_callSpecial?_slot (name := Str.ofString "__next__") hit.typeIs F.slot_tuple_iterator_next
    (wpAny_call_entry F.slot_tuple_iterator_next hit.typeIs F.entry_tuple_iterator_next ?_ (F.args_tuple_iterator_next_1 _)))
  show wpAny _ _ (field (.ref it) 0 >>= _) _ _ s
  refine wpAny_bind (wpAny_field ho hd (x := .ref t) rfl ?_)
  show wpAny _ _ (if (Value.ref t == Value.none) = true then _ else _) _ _ s
  rw [if_neg (show ¬ ((Value.ref t == Value.none) = true) from Bool.false_ne_true)]
  show wpAny _ _ (field (.ref it) 1 >>= _) _ _ s
  refine wpAny_bind (wpAny_field ho hd (x := .int i 0) rfl ?_)
  show wpAny _ _ (seqItems? (.ref t) >>= _) _ _ s
  refine wpAny_bind (wpAny_seqItems hol hdl ?_)
  simp only [Int.toNat_natCast, hx]
  refine wpAny_bind (wpAny_setField ho hd (by simp) (wpAny_pure ⟨x, rfl, wpAny_pure (hQ _ ?_ (Heap.SameBut.update ..))⟩))
  exact ⟨_, Heap.get?_update_self _ ho (Obj.isFreed_of_fields (Obj.data_mapFields hd _)), (Obj.cls_mapFields ..).trans hc, by
    rw [Obj.data_mapFields hd]; simp [rawInt]⟩

theorem nextOf_tuple_end {it t : Addr} {i : Nat} {items : Array Value} {Q : Value → Shared → Prop} (hh : A.handled = none)
    (hit : s.heap.IsTupleIter it t i) (ht : s.heap.IsTuple t items) (hx : items[i]? = none)
    (hE : ∀ h' e, Heap.ExtBut it s.heap h' → (∃ o, h'.get? e = some o ∧ o.cls = .type "StopIteration") → E (.ref e) { s with heap := h' }) :
    wpAny (model prog w) A (Builtin.SmallTypes.nextOf (.ref it)) Q E s := by
  refine hide fun GG hGG => ?_
  obtain ⟨o, ho, hc, hd⟩ := id hit
  obtain ⟨ol, hol, _, nl, hdl⟩ := ht
  refine hGG ?_
  clear hGG GG
  unfold Builtin.SmallTypes.nextOf
  refine wpAny_bind (wpAny_callSpecial?_slot (name := Str.ofString "__next__") hit.typeIs F.slot_tuple_iterator_next
    (wpAny_call_entry F.slot_tuple_iterator_next hit.typeIs F.entry_tuple_iterator_next ?_ (F.args_tuple_iterator_next_1 _)))
  show wpAny _ _ (field (.ref it) 0 >>= _) _ _ s
  refine wpAny_bind (wpAny_field ho hd (x := .ref t) rfl ?_)
  show wpAny _ _ (if (Value.ref t == Value.none) = true then _ else _) _ _ s
  rw [if_neg (show ¬ ((Value.ref t == Value.none) = true) from Bool.false_ne_true)]
  show wpAny _ _ (field (.ref it) 1 >>= _) _ _ s
  refine wpAny_bind (wpAny_field ho hd (x := .int i 0) rfl ?_)
  show wpAny _ _ (seqItems? (.ref t) >>= _) _ _ s
  refine wpAny_bind (wpAny_seqItems hol hdl ?_)
  simp only [Int.toNat_natCast, hx]
  refine wpAny_bind (wpAny_rule (wpAny_bind (wpAny_setField ho hd (by simp) ?_)))
  show wpAny _ _ (newExc (.type "StopIteration") [] >>= _) _ _ _
  refine wpAny_bind ?_
  simp only [newExc, newTuple]
  refine wpAny_bind (wpAny_newObj_type ?_ (by size_fits))
  refine wpAny_bind (m := firstArgMember _ _) (wpAny_of_eq (a := Value.none) (by first | rfl | (simp only [firstArgMember]; rfl)) ?_)
  refine wpAny_newObj_type ?_ (by size_fits)
  simp only [raiseNew]
  refine wpAny_bind (wpAny_handled ?_)
  first | rw [show A.in1.handled = none from hh] | rw [hh]
  refine wpAny_bind (wpAny_pure (wpAny_throw ?_))
  exact hE _ _ (((Heap.SameBut.update ..).extBut.push _).push _) ⟨_, Heap.get?_push_size _ rfl, rfl⟩

theorem draws_tuple (hh : A.handled = none) (it l : Addr) (hne : l ≠ it) (items : Array Value) :
    Draws prog w A it [it, l] items.size (fun i v => items[i]? = some v) (fun i h => h.IsTupleIter it l i ∧ h.IsTuple l items) where
  live := fun _ _ st => let ⟨o, ho, _⟩ := st.1; ⟨o, ho⟩
  frame := fun _ _ _ st hk => ⟨st.1.at fun o e => hk it (by simp) o e, st.2.at fun o e => hk l (by simp) o e⟩
  item := fun i s Q E hi st hQ => by
    refine nextOf_tuple_item st.1 st.2 (x := items[i]) (by simp [hi]) fun h' hit' hs' => ?_
    exact hQ _ h' s.toks (by simp [hi]) ⟨hit', st.2.extBut hs'.extBut hne⟩ hs'
  done := fun s Q E st hE => nextOf_tuple_end hh st.1 st.2 (by simp) hE

open AutoSeq1 (wpAny_loadPart') in
theorem meets_enumerate_newT (l : Addr) (items : Array Value) (n : Nat) (dct : Option Addr) (sl : Array (Option Value)) :
    Meets (Builtin.«enumerate.__new__» ⟨[.type "enumerate", .ref l], []⟩) (fun _ R s => s.heap.get? l = some { cls := .type "tuple", dict := dct, data := .seq items n, slots := sl } ∧
      R (.ok (.ret (.ref (s.heap.push { cls := .type "tuple_iterator", data := .fields #[.ref l, .int 0 0] }).objs.size)))
        { s with heap := (s.heap.push { cls := .type "tuple_iterator", data := .fields #[.ref l, .int 0 0] }).push { cls := .type "enumerate", data := .fields #[.none, .bool false, .ref s.heap.objs.size, rawInt 0, .none, .none] } }) :=
  .of_wp fun prog w A R s h => by
    obtain ⟨hp, g, d, tk, os⟩ := s; obtain ⟨hl, h⟩ := h
    have hsub := sub_enumerate
    have hL : Heap.IsTuple (Shared.heap ⟨hp, g, d, tk, os⟩) l items := ⟨_, hl, rfl, n, rfl⟩
    wp_walk using wpAny_loadPart' hl
    refine wpAny_stack_any fun st => wpAny_pure ?_
    split
    · rename_i c _ _ _ _ _
      cases (c == Value.type "enumerate")
      · wp_walk using wpAny_loadPart' hl, wpAny_pyIter_tuple hL
        exact ⟨_, rfl, h⟩
      · wp_walk using wpAny_loadPart' hl, wpAny_pyIter_tuple hL
        exact ⟨_, rfl, h⟩
    · wp_walk using wpAny_loadPart' hl, wpAny_pyIter_tuple hL
      exact ⟨_, rfl, h⟩

theorem call_enumerate_tuple {l : Addr} {items : Array Value} {Q : Value → Shared → Prop} (hL : s.heap.IsTuple l items)
    (h : ∀ h', IsEnum h' (s.heap.objs.size + 1) s.heap.objs.size 0 .none → h'.IsTupleIter s.heap.objs.size l 0 →
      (∀ b o, s.heap.get? b = some o → h'.get? b = some o) → Q (.ref (s.heap.objs.size + 1)) { s with heap := h' }) :
    wpAny (model prog w) A (call (.type "enumerate") [.ref l]) Q E s := by
  refine hide fun GG hGG => ?_
  obtain ⟨⟨c, dct, dt, sl⟩, hl, hc, n, hd⟩ := hL
  refine hGG ?_
  clear hGG GG
  replace hc : c = .type "tuple" := hc
  replace hd : dt = .seq items n := hd
  subst hc hd
  refine callType_new F.called_enumerate (by decide) (F.typeCall_enumerate_1 _) (F.newCall_enumerate_1 _) (fun obj => F.args_object_init_2 obj _) F.entry_enumerate_new
    (meets_enumerate_newT l items n dct sl) ⟨hl, ?_⟩
  have hz : (s.heap.push { cls := .type "tuple_iterator", data := .fields #[.ref l, .int 0 0] }).objs.size = s.heap.objs.size + 1 := Heap.size_push ..
  show _ ∧ _
  rw [hz]
  have he : IsEnum ((s.heap.push { cls := .type "tuple_iterator", data := .fields #[.ref l, .int 0 0] }).push
      { cls := .type "enumerate", data := .fields #[.none, .bool false, .ref s.heap.objs.size, rawInt 0, .none, .none] }) (s.heap.objs.size + 1) s.heap.objs.size 0 .none := by
    have := Heap.get?_push_size (s.heap.push { cls := .type "tuple_iterator", data := .fields #[.ref l, .int 0 0] })
      (o := { cls := .type "enumerate", data := .fields #[.none, .bool false, .ref s.heap.objs.size, rawInt 0, .none, .none] }) rfl
    rw [hz] at this; exact this
  exact ⟨⟨_, he, rfl⟩, h _ he ⟨_, Heap.get?_push_of_some _ (Heap.get?_push_size _ rfl), rfl, rfl⟩ fun b o x => Heap.get?_push_of_some _ (Heap.get?_push_of_some _ x)⟩
end
end Mine

namespace Mine
open PySem PySem.Calls PyProof.Rows PySem.W

section
variable {prog : Program} {w : World} {cx : Cx} {h₀ : Heap} {ih : Ev} {n m : Nat}
variable {B : Base} {ρ : List Addr} {H H' H₁ : Hp} {s : Shared} {ae : AEnv} {env : Env} {A : Around} {E : Value → Shared → Prop} {v : AV}

theorem enumLoop_sound (I : Snd prog w h₀ ih n) {x y : Str} {px py tp : Pos} {tk : Nat} {body orelse : List Stmt} {k : Nat} {items : List AV} {us : List Value} {e it t : Addr} {fl : AFlow} {R : Result → Shared → Prop}
    (hA : A.handled = none) (c : Here h₀ B ρ ae env H s A n) (hus : VRs ρ items us) (hei : e ≠ it) (hte : t ≠ e) (hti : t ≠ it) (hap : Apart ρ H [e, it, t])
    (he : IsEnum s.heap e it 0 .none) (hit : s.heap.IsTupleIter it t 0) (ht : s.heap.IsTuple t us.toArray) (hBe : B e = none) (hBi : B it = none)
    (h : orElse (fun H => ih.x ae H (orelse.map (cS m k))) none (enumGo ae x y (fun H => ih.x ae H (body.map (cS m k))) 0 items H) = some (fl, H'))
    (hR : ∀ f s', Post B ρ s H' (FR fl) f s' → R (.ok f) s') :
    codeAny (model prog w) A (.forLoop (.Tuple [.Name x px, .Name y py] tk tp) (.ref e) body orelse env) R s := by
  have hlen := hus.length
  have WT := WalksT.enumerateD (prog := prog) (w := w) (A := A) (draws_tuple (A := A.in1) hA it t hti us.toArray) e hei (by simp [hei, Ne.symm hte]) (by simp)
  generalize hSt : (fun (i : Nat) (h : Heap) => (∃ old, IsEnum h e it i old) ∧ h.IsTupleIter it t i ∧ h.IsTuple t us.toArray) = Stt at WT
  have stdef : ∀ i h, Stt i h ↔ ((∃ old, IsEnum h e it i old) ∧ h.IsTupleIter it t i ∧ h.IsTuple t us.toArray) := by intro i h; rw [← hSt]
  have st0 : Stt 0 s.heap := (stdef _ _).mpr ⟨⟨_, he⟩, hit, ht⟩
  have inn : ∀ i h, Stt i h → ∀ b ∈ [e, it, t], ∃ o, h.get? b = some o := by
    intro i h st b hb
    refine hide fun GG hGG => ?_
    obtain ⟨⟨old, h1⟩, ⟨o2, h2, _⟩, ⟨o3, h3, _⟩⟩ := (stdef _ _).mp st
    refine hGG ?_
    clear hGG GG
    simp at hb
    rcases hb with rfl | rfl | rfl
    · exact ⟨_, h1⟩
    · exact ⟨_, h2⟩
    · exact ⟨_, h3⟩
  have al : ∀ i h, Stt i h → ∀ b ∈ [e, it], ∃ o fs, h.get? b = some o ∧ o.data = .fields fs := by
    intro i h st b hb
    refine hide fun GG hGG => ?_
    obtain ⟨⟨old, h1⟩, ⟨o2, h2, _, h2'⟩, _⟩ := (stdef _ _).mp st
    refine hGG ?_
    clear hGG GG
    simp at hb
    rcases hb with rfl | rfl
    · exact ⟨_, _, h1, rfl⟩
    · exact ⟨_, _, h2, h2'⟩
  have nb : ∀ b ∈ [e, it], B b = none := by
    intro b hb
    simp at hb
    rcases hb with rfl | rfl
    · exact hBe
    · exact hBi
  have sz : us.toArray.size = items.length := by simp [hlen]
  rw [sz] at WT
  refine veil (fun (q : Nat) (s' : Shared) => ∃ i Hi ρi, q = items.length + 1 - i ∧ i ≤ items.length ∧ Same s s' ∧ ρ <+: ρi ∧ St B ρi Hi s' ∧ Apart ρi Hi [e, it, t] ∧ Stt i s'.heap ∧
      orElse (fun H => ih.x ae H (orelse.map (cS m k))) none (enumGo ae x y (fun H => ih.x ae H (body.map (cS m k))) i (items.drop i) Hi) = some (fl, H')) fun IV mk un => ?_
  refine codeAny_forLoop_any IV ?_ (items.length + 1) (mk _ _ ⟨0, H, ρ, rfl, Nat.zero_le _, Same.refl _, List.prefix_refl _, c.S, hap, st0, h⟩)
  intro q s' iv
  refine hide fun GG hGG => ?_
  obtain ⟨i, Hi, ρi, rfl, hi, sm, p, S, ha, st, hgo⟩ := un _ _ iv
  refine hGG ?_
  clear hGG GG
  clear iv un
  by_cases hlt : i < items.length
  · refine WT.item i _ _ _ hlt st fun T vals h₁ tk₁ hP hT htup hmid hk₁ => ?_
    refine hide fun GG hGG => ?_
    obtain ⟨ti, u, hui, rfl⟩ := hP
    obtain ⟨a, hia, hav⟩ := hus.get' (by simpa using hui)
    refine hGG ?_
    clear hGG GG
    rw [drop_cons hia] at hgo
    refine WT.go _ _ _ i T _ _ _ hmid fun h₂ st₂ hk₂ => ?_
    have hk : ∀ b o, b ∉ [e, it] → s'.heap.get? b = some o → h₂.get? b = some o := fun b o hb x => hk₂ b o hb (hk₁ b o hb x)
    have S₁ := S.step hk (al i _ st) nb tk₁
    have hTn : T ∉ [e, it] := WT.apart i T h₁ hmid
    have hT2 : h₂.IsTuple T #[.int i ti, u] := by obtain ⟨o, ho, r⟩ := htup; exact ⟨o, hk₂ _ _ hTn ho, r⟩
    have S₁o := S₁.over ha
    have hB₁ := over_hB (fp := [e, it, t]) c.hB S₁
    have V₁ := c.V.mono p
    have unov : ∀ {ρj : List Addr} {Hj : Hp} {sj : Shared}, St (B.over [e, it, t] h₂) ρj Hj sj → St B ρj Hj sj ∧ Apart ρj Hj [e, it, t] ∧ Stt (i + 1) sj.heap := by
      intro ρj Hj sj Sj
      obtain ⟨Sb, hapj, hfp⟩ := Sj.unover (inn _ _ st₂) fun b o e hb => S₁.kept b o e
      exact ⟨Sb, hapj, WT.frame _ _ _ st₂ fun b hb o e => hfp b hb o e⟩
    cases hb0 : bindAll ae Hi [x, y] [.int (.ofNat i), a] with
    | none =>
      unfold enumGo at hgo
      rw [hb0] at hgo
      exact ooNo hgo
    | some H0 =>
      have hgo : orElse (fun H => ih.x ae H (orelse.map (cS m k))) none (match ih.x ae H0 (body.map (cS m k)) with
        | some (.next, H1) => enumGo ae x y (fun H => ih.x ae H (body.map (cS m k))) (i + 1) (items.drop (i + 1)) H1
        | some (.cont, H1) => enumGo ae x y (fun H => ih.x ae H (body.map (cS m k))) (i + 1) (items.drop (i + 1)) H1
        | some (.brk, H1) => some (.brk, H1)
        | some (.ret r, H1) => some (.ret r, H1)
        | none => none) = some (fl, H') := by
        unfold enumGo at hgo
        rw [hb0] at hgo
        exact hgo
      refine wpAny_assign_Tuple c.R.handled hT2 rfl rfl fun h₃ hx₃ => ?_
      have S₂ := S₁o.grow (h' := h₃) (fun b o e => hx₃ b o (Nat.ne_of_lt (Heap.lt_size e)) e) tk₁
      have hvs : VRs ρi [.int (.ofNat i), a] [.int i ti, u] := ⟨⟨ti, rfl⟩, hav.mono p, trivial⟩
      refine wpAny_mono (bindAll_sound (elts := [.Name x px, .Name y py]) rfl hb0 hvs V₁ S₂) (fun _ s₃ q => ?_) fun _ _ e => e
      obtain ⟨sm₃, S₃⟩ := q
      have sms : Same s s₃ := sm.trans ((Same.mk s' h₃ tk₁).trans sm₃)
      cases hb : ih.x ae H0 (body.map (cS m k)) with
      | none => rw [hb] at hgo; exact ooNo hgo
      | some fH =>
        obtain ⟨f, Hj⟩ := fH
        rw [hb] at hgo
        refine wpAny_mono (I.x m k body ae env _ ρi H0 s₃ A f Hj hb hB₁ V₁ S₃ c.R _) (fun g s₄ q => ?_) fun _ _ e => e
        refine hide fun GG hGG => ?_
        obtain ⟨sm₄, ρ₄, p₄, hg, S₄⟩ := q
        obtain ⟨Sb, hapj, stj⟩ := unov S₄
        refine hGG ?_
        clear hGG GG
        have smj := sms.trans sm₄
        have pj := p.trans p₄
        cases f with
        | next =>
          cases hg
          exact ⟨items.length + 1 - (i + 1), loop_less hlt, mk _ _ ⟨i + 1, Hj, ρ₄, rfl, hlt, smj, pj, Sb, hapj, stj, hgo⟩⟩
        | cont =>
          cases hg
          exact ⟨items.length + 1 - (i + 1), loop_less hlt, mk _ _ ⟨i + 1, Hj, ρ₄, rfl, hlt, smj, pj, Sb, hapj, stj, hgo⟩⟩
        | brk =>
          cases hg
          cases hgo
          exact hR _ _ ⟨smj, ρ₄, pj, rfl, Sb⟩
        | ret r =>
          refine hide fun GG hGG => ?_
          obtain ⟨x, rfl, hx⟩ := hg
          refine hGG ?_
          clear hGG GG
          cases hgo
          exact hR _ _ ⟨smj, ρ₄, pj, ⟨x, rfl, hx⟩, Sb⟩
  · have hin : i = items.length := by omega
    subst hin
    rw [List.drop_length] at hgo
    refine WT.done _ _ _ st fun h₁ tk₁ hk₁ => ?_
    have S₁ := S.step hk₁ (al _ _ st) nb tk₁
    refine wpAny_mono (I.x m k orelse ae env B ρi Hi _ A fl H' hgo c.hB (c.V.mono p) S₁ c.R _) (fun g s₃ q => ?_) fun _ _ e => e
    exact hR g s₃ (q.up (sm.trans (Same.mk s' h₁ tk₁)) p)

theorem enum_sound (G : Gd prog w cx h₀) (I : Snd prog w h₀ ih n) : EnumSnd prog w cx h₀ ih n := by
  intro m k x y src body els px py fp cp tp pos tk ae env B ρ H s A fl H' E c h
  unfold sEnum at h
  refine ooFT h ?_
  clear h; intros; rename_i hst hen h
  refine ooGrefP h ?_
  clear h; intros; rename_i a H1 h1 h
  refine ooLA h ?_
  clear h; intros; rename_i xs hxs h
  have hv : rdVar cx ae H enumName = some (.bi .tEnum) := by
    unfold isEnum at hen
    split at hen
    · rename_i b hb
      split at hen
      · exact hb
      · cases hen
    · cases hen
  have hev : evList (ih.e ae) H ([src].map (cE m)) = some ([.gref a], H1) := by
    simp only [List.map_cons, List.map_nil, evList, evArg_plain hst, h1]
    rfl
  have hst' : ([src].map (cE m)).any isStar = false := by simp [hst]
  have fl1 := noStar_flags (pos := cp) (env := env) I [src] hev hst'
  refine wpAny_For (Call_ (wpAny_Name (rdVar_sound G hv c.hB c.V c.S fun u hu => ?_) (by decide +kernel)))
  cases hu
  refine PyProof.Rows.callWith_type (T := "enumerate") fl1.1 (evalArgs_sp ?_ ?_)
  · intro q e
    have := fl1.1
    rw [e] at this
    cases this
  · refine nxt (list_sound I [src] c hev) fun ws s₁ ρ₁ sm p hws S₁ => ?_
    refine hide fun GG hGG => ?_
    obtain ⟨u, rfl, hu⟩ := hws.one
    cases hu
    obtain ⟨z, himm, us, ⟨o, ho, r⟩, hvs⟩ := G.gtup _ _ hxs
    refine hGG ?_
    clear hGG GG
    have hta : s₁.heap.IsTuple a us.toArray := ⟨o, S₁.kept _ _ (c.hB _ _ ho), r⟩
    have hlt : a < s₁.heap.objs.size := Heap.lt_size (S₁.kept _ _ (c.hB _ _ ho))
    refine call_enumerate_tuple hta fun h' he hit hk => ?_
    refine wpAny_pyIter_enum he ?_
    have S₂ := S₁.grow hk s₁.toks
    have ha : h'.IsTuple a us.toArray := by obtain ⟨o', ho', r'⟩ := hta; exact ⟨o', hk _ _ ho', r'⟩
    refine enumLoop_sound I c.R.handled (c.next p S₂) (hvs.mono List.nil_prefix) (Nat.succ_ne_self _) (Nat.ne_of_lt (Nat.lt_succ_of_lt hlt)) (Nat.ne_of_lt hlt) ?_ he hit ha (S₁.fresh (Nat.le_succ _)) (S₁.fresh (Nat.le_refl _)) h fun f s' q => q.up (sm.trans (Same.mk s₁ h' s₁.toks)) p
    intro i b o' e1 e2 hm hb
    have hbl := S₁.lt e1
    simp at hb
    rcases hb with rfl | rfl | rfl
    · exact Nat.lt_irrefl _ (Nat.lt_trans (Nat.lt_succ_self _) hbl)
    · exact Nat.lt_irrefl _ hbl
    · have := S₁.own i _ o' e1 e2 hm
      rw [c.hB _ _ ho] at this; cases this

theorem evN_sound (G : Gd prog w cx h₀) : ∀ k, Snd prog w h₀ (evN cx k) (cx.r + k)
  | 0 => by
    have := snd0 (prog := prog) (w := w) (h₀ := h₀)
    exact ⟨fun _ _ _ _ _ _ _ _ _ _ _ h => (by cases h), fun _ _ _ _ _ _ _ _ _ _ _ h => (by cases h), fun _ _ _ _ _ _ _ _ _ _ _ _ h => (by cases h), fun _ _ _ _ _ _ _ _ _ _ h => (by cases h), fun _ _ _ _ _ _ _ _ _ _ _ _ _ _ h => (by cases h), fun _ _ => rfl, fun _ _ _ _ h => (by cases h)⟩
  | k + 1 => step_sound G (evN_sound G k) (enum_sound G (evN_sound G k)) (Nat.le_add_right ..)
end
end Mine

namespace Mine
open PySem PySem.Calls PyProof.Rows PySem.W

noncomputable def vrB : AV → Value → Bool
  | .int i, .int j _ => decide (i = j)
  | .fn a, .ref b => Nat.beq a b
  | .gref a, .ref b => Nat.beq a b
  | .bi k, v => k.val == v
  | _, _ => false
theorem vrB_sound {v : AV} {u : Value} (h : vrB v u = true) : VR [] v u := by
  unfold vrB at h
  split at h
  · have := of_decide_eq_true h; subst this; exact ⟨_, rfl⟩
  · have := Nat.eq_of_beq_eq_true h; subst this; rfl
  · have := Nat.eq_of_beq_eq_true h; subst this; rfl
  · have := eq_of_beq h; exact this.symm
  · cases h
noncomputable def nameS : Str := Str.ofString "__name__"
section
variable {prog : Program} {w : World} {K : Frag} {h₀ : Heap} {p : Program} {loose : List Str} {mg mb : Str → Option Value}
end
end Mine

namespace Mine
open PySem PySem.Calls PyProof.Rows PySem.W

noncomputable def Grow (B B' : Base) : Prop := ∀ b o, B b = some o → B' b = some o
noncomputable abbrev Perm := List (Addr × Obj)
/-- things laid down for good -/
noncomputable def Base.plus (B : Base) (new : Perm) : Base := fun b => match new.lookup b with | some o => some o | none => B b
structure Fresh (new : Perm) (s s' : Shared) : Prop where
  was : ∀ p ∈ new, s.heap.get? p.1 = none
  is : ∀ p ∈ new, s'.heap.get? p.1 = some p.2
theorem Fresh.nil (s s' : Shared) : Fresh [] s s' := ⟨fun _ h => (by cases h), fun _ h => (by cases h)⟩
theorem lookup_in {α : Type} {b : Nat} {o : α} : ∀ {new : List (Nat × α)}, new.lookup b = some o → (b, o) ∈ new
  | [], h => by cases h
  | (c, u) :: r, h => by
    rw [List.lookup_cons] at h
    split at h
    · rename_i e
      cases h
      have := eq_of_beq e; subst this
      exact List.mem_cons_self
    · exact List.mem_cons_of_mem _ (lookup_in h)
section
variable {B B' : Base} {ρ : List Addr} {H : Hp} {s s' : Shared} {new : Perm}
theorem Grow.refl (B : Base) : Grow B B := fun _ _ e => e
theorem Grow.trans {B₁ B₂ B₃ : Base} (x : Grow B₁ B₂) (y : Grow B₂ B₃) : Grow B₁ B₃ := fun b o e => y b o (x b o e)
theorem St.weaken (S : St B' ρ H s) (g : Grow B B') : St B ρ H s :=
  ⟨fun b o e => S.kept b o (g b o e), S.len, S.nodup, fun i a o e1 e2 hm => (by
    cases hB : B a with
    | none => rfl
    | some q => exact absurd ((g a q hB).symm.trans (S.own i a o e1 e2 hm)) (by simp)), S.objs⟩
theorem St.stand (S : St B ρ H s) {a : Addr} (h : a ∈ ρ) : ∃ o, s.heap.get? a = some o := by
  obtain ⟨j, hj, e⟩ := List.mem_iff_getElem.mp h
  have hjH : j < H.length := by rw [← S.len]; exact hj
  exact (S.objs j a _ (by rw [List.getElem?_eq_getElem hj, e]) (List.getElem?_eq_getElem hjH)).stands
theorem plus_none (F : ∀ p ∈ new, s.heap.get? p.1 = none) {b : Addr} {o : Obj} (h : s.heap.get? b = some o) : new.lookup b = none := by
  cases e : new.lookup b with
  | none => rfl
  | some u => have := F _ (lookup_in e); rw [h] at this; cases this
theorem grow_plus (F : ∀ p ∈ new, s.heap.get? p.1 = none) (k : ∀ b o, B b = some o → s.heap.get? b = some o) : Grow B (B.plus new) := fun b o e => by
  unfold Base.plus
  rw [plus_none F (k b o e)]; exact e
theorem St.plus (S : St B ρ H s') (F : Fresh new s s') (hρ : ∀ a ∈ ρ, ∃ o, s.heap.get? a = some o) : St (B.plus new) ρ H s' :=
  ⟨fun b o e => by
    unfold Base.plus at e
    split at e
    · rename_i u hu; cases e; exact F.is _ (lookup_in hu)
    · exact S.kept b o e, S.len, S.nodup, fun i a o e1 e2 hm => by
    unfold Base.plus
    obtain ⟨q, hq⟩ := hρ a (List.mem_of_getElem? e1)
    rw [plus_none F.was hq]
    exact S.own i a o e1 e2 hm, S.objs⟩
theorem grow_over {fp : List Addr} {h : Heap} (k : ∀ b o, B b = some o → h.get? b = some o) : Grow B (B.over fp h) := fun b o e => by
  unfold Base.over
  split
  · exact k b o e
  · exact e
/-- behind a turn of a loop -/
theorem settle {ρ₂ : List Addr} {H₂ : Hp} {s₂ : Shared} {fp : List Addr} {h₁ : Heap} (inn : ∀ b ∈ fp, ∃ o, h₁.get? b = some o) (k₁ : ∀ b o, B b = some o → h₁.get? b = some o) (S₂ : St (B.over fp h₁) ρ₂ H₂ s₂)
    (S : St ((B.over fp h₁).plus new) ρ H s') (was : ∀ p ∈ new, s₂.heap.get? p.1 = none) :
    St (B.plus new) ρ H s' ∧ Apart ρ H fp ∧ (∀ b ∈ fp, ∀ o, h₁.get? b = some o → s'.heap.get? b = some o) ∧ ∀ b ∈ fp, new.lookup b = none := by
  have g1 : Grow B (B.over fp h₁) := grow_over k₁
  have g2 : Grow (B.over fp h₁) ((B.over fp h₁).plus new) := grow_plus was S₂.kept
  have ov : ∀ b ∈ fp, ∀ o, h₁.get? b = some o → B.over fp h₁ b = some o := fun b hb o e => by unfold Base.over; rw [if_pos hb]; exact e
  refine ⟨S.weaken fun b o e => ?_, fun i a o e1 e2 hm ha => ?_, fun b hb o e => S.kept b o (g2 b o (ov b hb o e)), fun b hb => ?_⟩
  · unfold Base.plus at e ⊢
    cases hu : new.lookup b with
    | some u => simp only [hu] at e ⊢; exact e
    | none => simp only [hu] at e ⊢; exact g1 b o e
  · obtain ⟨q, hq⟩ := inn a ha
    have := S.own i a o e1 e2 hm
    rw [g2 a q (ov a ha q hq)] at this; cases this
  · obtain ⟨q, hq⟩ := inn b hb
    exact plus_none was (S₂.kept b q (ov b hb q hq))
theorem same_len {ρ' : List Addr} (p : ρ <+: ρ') (h : ρ'.length = ρ.length) : ρ' = ρ := (p.eq_of_length h.symm).symm
end

section
variable {prog : Program} {w : World} {cx : Cx} {h₀ : Heap} {ih : Ev} {n m : Nat}
variable {B : Base} {ρ : List Addr} {H H' H1 H2 : Hp} {s : Shared} {ae : AEnv} {env : Env} {A : Around} {E : Value → Shared → Prop} {v : AV}

noncomputable def tests (ifs : List PySem.Expr) (env : Env) : Sem Bool := forIn ifs true fun c r => if r = true then do let ok ← isTrue c env (eval c env); pure (ForInStep.yield ok) else pure (ForInStep.yield r)

/-- what an element's turn leaves behind -/
noncomputable def EltOut (Inv : Nat → List AV → Base → Prop) (i : Nat) (ys : List AV) (Bi B' : Base) (ρ : List Addr) (H : Hp) (s : Shared) (z : Value) (s' : Shared) : Prop :=
  ∃ a new, Same s s' ∧ St B' ρ H s' ∧ VR ρ a z ∧ Fresh new s s' ∧ ∀ B'', Grow Bi B'' → (∀ p ∈ new, B'' p.1 = some p.2) → Inv (i + 1) (ys ++ [a]) B''
noncomputable def TurnOut (prog : Program) (w : World) (A : Around) (E : Value → Shared → Prop) (elt : PySem.Expr) (env : Env) (Inv : Nat → List AV → Base → Prop) (i : Nat) (ys : List AV) (Bi B' : Base) (ρ : List Addr) (H : Hp) (s : Shared) (ok : Bool) (s' : Shared) : Prop :=
  match ok with
  | true => wpAny (model prog w) A (eval elt env) (EltOut Inv i ys Bi B' ρ H s) E s'
  | false => Same s s' ∧ St B' ρ H s' ∧ ∀ B'', Grow Bi B'' → Inv (i + 1) ys B''

/-- two entries for one address are alike -/
theorem fresh_lookup {new : Perm} {s s' : Shared} (F : Fresh new s s') {p : Addr × Obj} (hm : p ∈ new) (B : Base) : (B.plus new) p.1 = some p.2 := by
  unfold Base.plus
  cases e : new.lookup p.1 with
  | some u =>
    have h1 := F.is _ (lookup_in e)
    have h2 := F.is _ hm
    simp only at h1
    rw [h1] at h2; exact h2
  | none =>
    exfalso
    have : ∀ {l : Perm}, p ∈ l → l.lookup p.1 ≠ none := by
      intro l
      induction l with
      | nil => intro h; cases h
      | cons q r ih =>
        intro h
        rw [List.lookup_cons]
        rcases List.mem_cons.mp h with e | h
        · subst e; simp
        · split
          · simp
          · exact ih h
    exact this hm e

theorem compLoop_rel {elt iter : PySem.Expr} {x : Str} {px : Pos} {ifs : List PySem.Expr} {scope : Scope} {pos : Pos} {items : List AV} {It0 : Addr} {fp wr : List Addr} {P : Nat → Value → Prop} {Stt : Nat → Heap → Prop} {ρ₂ : List Addr}
    {acc : Nat} {D : Addr} {R : Result → Shared → Prop} {Hf : List AV → Option AV → Hp} (Inv : Nat → List AV → Base → Prop)
    (hA : A.handled = none) (T : It prog w B items ρ₂ It0 fp wr P Stt) (p₂ : ρ₂ <+: ρ) (c : Here h₀ B ρ ae env (Hf [] none) s A n) (hap : Apart ρ (Hf [] none) fp) (hst : Stt 0 s.heap) (hD : ρ[acc]? = some D)
    (hwr : ∀ o v ys, wrVar ae (Hf ys o) x v = some (Hf ys (some v))) (hacc : ∀ ys o, (Hf ys o)[acc]? = some (.list ys)) (hset : ∀ ys ys' o, (Hf ys o).set acc (.list ys') = Hf ys' o)
    (hlen : items.length < lim) (h0 : Inv 0 [] B) (hn : ∀ i ys B, Inv i ys B → ys.length ≤ i)
    (turn : ∀ i v, items[i]? = some v → ∀ ys Bi B' s' E, Inv i ys Bi → Grow Bi B' → (∀ b o, h₀.get? b = some o → B' b = some o) → St B' ρ (Hf ys (some v)) s' →
      wpAny (model prog w) A (tests ifs env) (TurnOut prog w A E elt env Inv i ys Bi B' ρ (Hf ys (some v)) s') E s')
    (hR : ∀ s' ys o B', Grow B B' → (∀ a ∈ ρ, B a = none → B' a = none) → Inv items.length ys B' → Same s s' → St B' ρ (Hf ys o) s' → R (.ok .next) s') :
    codeAny (model prog w) A (.compLoop (.ListComp elt [⟨.Name x px, iter, ifs, 0⟩] scope pos) 0 (.ref It0) (.ref D) env) R s := by
  refine veil (fun (k : Nat) (s' : Shared) => ∃ i ys o Bi, k = items.length + 1 - i ∧ i ≤ items.length ∧ Same s s' ∧ Grow B Bi ∧ (∀ a ∈ ρ, B a = none → Bi a = none) ∧ (∀ b ∈ wr, Bi b = none) ∧ St Bi ρ (Hf ys o) s' ∧ Apart ρ (Hf ys o) fp ∧ Stt i s'.heap ∧ Inv i ys Bi) fun IV mk un => ?_
  refine codeAny_compLoop_tests IV ?_ (items.length + 1) (mk _ _ ⟨0, [], none, B, rfl, Nat.zero_le _, Same.refl _, Grow.refl _, (fun _ _ e => e), T.nb, c.S, hap, hst, h0⟩)
  intro k s' iv
  refine hide fun GG hGG => ?_
  obtain ⟨i, ys, o, Bi, rfl, hi, sm, gr, kρ, nb, S, ha, st, inv⟩ := un _ _ iv
  refine hGG ?_
  clear hGG GG
  clear iv un
  by_cases hlt : i < items.length
  · refine (T.W A hA).item i _ _ _ hlt st fun u h₁ tk₁ hP st₁ hk₁ => ?_
    obtain ⟨a, hia, hav⟩ := T.val i u hP
    have S₁ := S.step hk₁ (T.al i _ st) nb tk₁
    have S₁o := S₁.over ha
    have hBi : ∀ b o, h₀.get? b = some o → Bi b = some o := fun b o e => gr b o (c.hB b o e)
    have hB₁ := over_hB (fp := fp) hBi S₁
    have gov : Grow Bi (Bi.over fp h₁) := grow_over S₁.kept
    have V₁ := c.V
    refine wpAny_assign_Name (wrVar_sound (hwr o a ys) c.V S₁o (hav.mono p₂) fun s₂ sm₂ S₂ => ?_)
    have sms : Same s s₂ := sm.trans ((Same.mk s' h₁ tk₁).trans sm₂)
    have back : ∀ {ysj : List AV} {oj : Option AV} {sj : Shared} {new : Perm}, Same s sj → St ((Bi.over fp h₁).plus new) ρ (Hf ysj oj) sj → (∀ p ∈ new, s₂.heap.get? p.1 = none) → Inv (i + 1) ysj (Bi.plus new) →
        ∃ k', k' < items.length + 1 - i ∧ IV k' sj := by
      intro ysj oj sj new smj Sj was inv'
      refine hide fun GG hGG => ?_
      obtain ⟨Sb, hapj, hfp, hln⟩ := settle (T.inn _ _ st₁) S₁.kept S₂ Sj was
      refine hGG ?_
      clear hGG GG
      refine ⟨items.length + 1 - (i + 1), loop_less hlt, mk _ _ ⟨i + 1, ysj, oj, Bi.plus new, rfl, hlt, smj, gr.trans (grow_plus was fun b o e => S₂.kept b o (gov b o e)), fun a ha hB => ?_, fun b hb => ?_, Sb, hapj, (T.W A hA).frame _ _ _ st₁ fun b hb o e => hfp b hb o e, inv'⟩⟩
      · obtain ⟨q, hq⟩ := S₂.stand ha
        unfold Base.plus
        rw [plus_none was hq]; exact kρ a ha hB
      · unfold Base.plus
        rw [hln b ((T.W A hA).sub b hb)]; exact nb b hb
    refine wpAny_mono (turn i a hia ys Bi _ s₂ _ inv gov hB₁ S₂) (fun ok s₃ q => ?_) fun _ _ e => e
    cases ok with
    | false =>
      obtain ⟨sm₃, S₃, inv₃⟩ := q
      simp only [Bool.false_eq_true, if_false]
      exact back (new := []) (sms.trans sm₃) S₃ (fun _ h => by cases h) (inv₃ _ (grow_plus (s := s₂) (fun _ h => by cases h) fun b o e => S₂.kept b o (gov b o e)))
    | true =>
      simp only [if_true]
      refine wpAny_mono q (fun z s₄ q => ?_) fun _ _ e => e
      refine hide fun GG hGG => ?_
      obtain ⟨b, new, sm₄, S₄, hz, F, inv₄⟩ := q
      refine hGG ?_
      clear hGG GG
      have S₅ := S₄.plus F fun c hc => S₂.stand hc
      have hys := hn _ _ _ inv
      have hok : okL (ys ++ [b]) = true := Nat.ble_eq_true_of_le (by
        rw [List.length_append]
        have : lim = 1048576 := rfl
        show ys.length + 1 ≤ 1048576
        omega)
      have hm : method (Hf ys (some a)) (.obj acc) .append [b] = some (.none, Hf (ys ++ [b]) (some a)) := by
        show mAppend (Hf ys (some a)) (.obj acc) [b] = _
        simp only [mAppend, obj?, one?, hacc, hok, hset]
      refine nxt (callMeth_sound (m := .append) S₅ hm ⟨D, hD, rfl⟩ ⟨hz, trivial⟩) fun q s₅ ρ₅ sm₅ p₅ hq S₆ => ?_
      have hρ : ρ₅ = ρ := same_len p₅ (by
        rw [S₆.len, S₅.len, ← hset ys (ys ++ [b]) (some a), List.length_set])
      subst hρ
      exact back (sms.trans (sm₄.trans sm₅)) S₆ F.was (inv₄ _ (grow_plus F.was fun b o e => S₂.kept b o (gov b o e)) fun p hp => fresh_lookup F hp _)
  · have hin : i = items.length := by omega
    subst hin
    refine (T.W A hA).done _ _ _ st fun h₁ tk₁ hk₁ => ?_
    exact hR _ ys o Bi gr kρ inv (sm.trans (Same.mk s' h₁ tk₁)) (S.step hk₁ (T.al _ _ st) nb tk₁)
end
end Mine

namespace Mine
open PySem PySem.Calls PyProof.Rows PySem.W

section
variable {prog : Program} {w : World} {cx : Cx} {h₀ : Heap} {ih : Ev} {n m : Nat}
variable {B : Base} {ρ : List Addr} {H H' H1 H2 : Hp} {s : Shared} {ae : AEnv} {env : Env} {A : Around} {E : Value → Shared → Prop} {v : AV}

theorem comp_rel (G : Gd prog w cx h₀) (I : Snd prog w h₀ ih n) {elt iter : PySem.Expr} {x : Str} {px : Pos} {ifs : List PySem.Expr} {scope : Scope} {pos fpos : Pos} {use : Option (Value → Sem Unit)} {Q : Value → Shared → Prop}
    {items : List AV} {fr : Option Nat} {cl : List (Str × Nat)} {own : Option AV → Hp} (Inv : Nat → List AV → Base → Prop)
    (c : Here h₀ B ρ ae env H s A n) (hsc : scopeOk scope = true) (hit : itemsOf cx ih ae H (cE m iter) = some (items, fr, H1)) (hcl : closure ae.cells scope.names = some cl)
    (hown : own none = .ns [] :: (cellsAt (H1.length + 2) scope.names).map fun _ => .cell none) (hns : ∀ o, ∃ mm r, own o = .ns mm :: r)
    (hwr : ∀ o v ys, wrVar ⟨scope.names, H1.length + 1, cellsAt (H1.length + 2) scope.names ++ cl⟩ (H1 ++ (.list ys :: own o)) x v = some (H1 ++ (.list ys :: own (some v))))
    (hth : ∀ t, thaw (H1 ++ t) fr = some (H2 ++ t)) (h12 : H2.length = H1.length) (hlow : H2.all (lowO H1.length) = true) (hlen : items.length < lim)
    (h0 : Inv 0 [] B) (hn : ∀ i ys B, Inv i ys B → ys.length ≤ i ∧ ys.any isObj = false)
    (turn : ∀ i v, items[i]? = some v → ∀ ys Bi B' ρ' env' s' E, Inv i ys Bi → Grow Bi B' → (∀ b o, h₀.get? b = some o → B' b = some o) → EnvOk ρ' ⟨scope.names, H1.length + 1, cellsAt (H1.length + 2) scope.names ++ cl⟩ env' →
      St B' ρ' (H1 ++ (.list ys :: own (some v))) s' → wpAny (model prog w) A (tests ifs env') (TurnOut prog w A E elt env' Inv i ys Bi B' ρ' (H1 ++ (.list ys :: own (some v))) s') E s')
    (hQ : ∀ ys B', Grow B B' → Inv items.length ys B' → UseOk prog w A E B' ρ s (.obj H1.length) (H2 ++ [.list ys]) use Q) :
    wpAny (model prog w) A (comprehension (.ListComp elt [⟨.Name x px, iter, ifs, 0⟩] scope pos) scope env fpos (newList []) false (eval iter env) use) Q E s := by
  unfold scopeOk at hsc
  split at hsc
  · rename_i hkind
    obtain ⟨clC, hclos, hcr⟩ := closure_sound c.V hsc hcl
    refine wpAny_comprehension_free rfl (noSet I hit) hclos hkind (fun z hz hl => hl ▸ nodupN_lookup hsc z hz) (wpAny_mono (items_sound G I c hit) (fun xv s₁ h₁ => wpAny_mono h₁ (fun it s₂ h₂ => ?_) fun _ _ e => e) fun _ _ e => e)
    refine hide fun GG hGG => ?_
    obtain ⟨ρ₀, s₀, sm₀, p₀, ht, It0, fp, wr, P, Stt, ρ₂, rfl, T, st, sm₂, p₂, S₂, hap⟩ := h₂
    refine hGG ?_
    clear hGG GG
    have So := S₂.over hap
    refine wpAny_newObj_type ?_
    have S3 := So.add (o := .list []) (h' := s₂.heap.push { cls := .type "list", data := .seq ([] : List Value).toArray }) (push_keeps _ _) (Nat.le_refl _) (fun _ => So.fresh (Nat.le_refl _))
      ⟨Nat.zero_le _, [], push_plain _ _, trivial⟩ s₂.toks
    have pr : ρ <+: ρ₂ ++ [s₂.heap.objs.size] := p₀.trans (p₂.trans (List.prefix_append ..))
    have hlen2 : ρ₂.length = H1.length := S₂.len
    refine wpAny_mono (newEnv_sound (H' := H1 ++ (.list [] :: .ns [] :: (cellsAt (H1.length + 2) scope.names).map fun _ => .cell none)) (cs := cl) (ab := []) (cb := []) (around := some env) hkind hsc c.V.glob c.V.bn (hcr.mono pr) S3 (by simp [bindParams]) rfl trivial) (fun env' s₄ q => ?_) fun _ _ e => e
    refine hide fun GG hGG => ?_
    obtain ⟨sm₄, hscope, ρ₄, p₄, V, S4, _⟩ := q
    rw [← hown] at S4
    have V4 : EnvOk ρ₄ ⟨scope.names, H1.length + 1, cellsAt (H1.length + 2) scope.names ++ cl⟩ { env' with scope := PySem.relabel scope env } := by
      have := V.relabel (env := env) hscope
      simpa using this
    obtain ⟨S4b, hap4, hfp⟩ := S4.unover (T.inn _ _ st) fun b o e hb => S₂.kept b o e
    refine hGG ?_
    clear hGG GG
    have st4 : Stt 0 s₄.heap := (T.W A c.R.handled).frame _ _ _ st fun b hb o e => hfp b hb o e
    have hD : ρ₄[H1.length]? = some s₂.heap.objs.size := get_pre p₄ (by rw [← hlen2]; simp)
    have hC : ρ₄[H1.length + 1]? = some env'.locals := V4.loc
    have c4 : Here h₀ B ρ₄ ⟨scope.names, H1.length + 1, cellsAt (H1.length + 2) scope.names ++ cl⟩ { env' with scope := PySem.relabel scope env } (H1 ++ (.list [] :: own none)) s₄ A n := ⟨c.hB, V4, S4b, c.R⟩
    have sms : Same s s₄ := sm₀.trans (sm₂.trans ((Same.mk s₂ _ s₂.toks).trans sm₄))
    have p24 : ρ₂ <+: ρ₄ := (List.prefix_append ..).trans p₄
    have key : codeAny (model prog w) A (.compLoop (.ListComp elt [⟨.Name x px, iter, ifs, 0⟩] scope pos) 0 (.ref It0) (.ref s₂.heap.objs.size) { env' with scope := PySem.relabel scope env }) (compPost (model prog w) A E use Q (.ref s₂.heap.objs.size) env'.locals) s₄ := by
      refine compLoop_rel (Hf := fun ys o => H1 ++ (.list ys :: own o)) (acc := H1.length) Inv c.R.handled T p24 c4 hap4 st4 hD hwr (fun ys o => by simp) (fun ys ys' o => by simp) hlen h0 (fun i ys B h => (hn i ys B h).1)
        (fun i v hv ys Bi B' s' E' inv g hb S' => turn i v hv ys Bi B' ρ₄ _ s' E' inv g hb V4 S') fun s' ys o B' gB kρ inv sm' S' => ?_
      have S'' := thaw_sound S' (hth _) (fun k e => by obtain ⟨a, ha, hb⟩ := ht.mono (p₂.trans p24) k e; exact ⟨a, ha, kρ a (List.mem_of_getElem? ha) hb⟩)
      refine hide fun GG hGG => ?_
      obtain ⟨mm, r, hor⟩ := hns o
      have hce : compEnd H1.length (H2 ++ (.list ys :: own o)) = some (.obj H1.length, H2 ++ [.list ys]) := by
        unfold compEnd
        have e1 : (H2 ++ (AObj.list ys :: own o)).take H1.length = H2 := by rw [← h12]; simp
        have e2 : (H2 ++ (AObj.list ys :: own o))[H1.length + 1]? = some (.ns mm) := by rw [← h12, hor]; simp
        have e3 : (H2 ++ (AObj.list ys :: own o))[H1.length]? = some (.list ys) := by rw [← h12]; simp
        rw [e1, e2, hlow, e3]
        simp only [(hn _ _ _ inv).2]
      obtain ⟨_, ⟨mf, hn'⟩, hBC, SE, hCn⟩ := compEnd_sound p24 hlen2 S'' hD hC hce
      refine hGG ?_
      clear hGG GG
      have pE : ρ <+: ρ₂ ++ [s₂.heap.objs.size] := pr
      have hv : VR (ρ₂ ++ [s₂.heap.objs.size]) (.obj H1.length) (.ref s₂.heap.objs.size) := VR.last _ _ hlen2
      have hQ' := hQ ys B' gB inv
      cases use with
      | none =>
        refine ⟨mf, hn', fun h' hs => hQ' _ _ ⟨sms.trans (sm'.trans (Same.mk s' h' s'.toks)), _, pE, hv, SE.but hCn hBC hs⟩⟩
      | some u =>
        have hapC : Apart (ρ₂ ++ [s₂.heap.objs.size]) (H2 ++ [.list ys]) [env'.locals] := by
          intro i a o e1 e2 hm hb
          simp at hb; subst hb
          exact hCn (List.mem_of_getElem? e1)
        have SC := SE.over hapC
        refine wpAny_mono (hQ' (B'.over [env'.locals] s'.heap) _ s' _ (fun b o e => ?_) (sms.trans sm') pE hv SC) (fun _ s₇ q => ?_) fun _ _ e => e
        · unfold Base.over
          split
          · exact SE.kept b o e
          · exact e
        · refine hide fun GG hGG => ?_
          obtain ⟨H₇, sm₇, S₇, fin⟩ := q
          obtain ⟨oC, _, _, hoC, _⟩ := id hn'
          refine hGG ?_
          clear hGG GG
          obtain ⟨S7, _, hk7⟩ := S₇.unover (fun b hb => by simp at hb; subst hb; exact ⟨_, hoC⟩) fun b o e hb => SE.kept b o e
          refine ⟨mf, hn'.at' fun o e => hk7 _ (by simp) o e, fun h' hs => fin _ (Same.mk s₇ h' s₇.toks) (S7.but hCn hBC hs)⟩
    refine codeAny_compStart_list key ((T.W A c.R.handled).self _ _ _ _ st4 key)
  · cases hsc
end
end Mine

namespace Mine
open PySem PySem.Calls PyProof.Rows PySem.W

section
variable {prog : Program} {w : World} {cx : Cx} {h₀ : Heap} {ih : Ev} {n m : Nat}
variable {B : Base} {ρ : List Addr} {H H' H1 H2 : Hp} {s : Shared} {ae : AEnv} {env : Env} {A : Around} {E : Value → Shared → Prop} {v : AV}

/-- what a turn of a loop leaves behind -/
noncomputable def BodyOut (Inv : Nat → Hp → Base → Prop) (i : Nat) (Bi B' : Base) (ρ : List Addr) (s : Shared) (f : Flow) (s' : Shared) : Prop :=
  f = .next ∧ ∃ H' new, Same s s' ∧ St B' ρ H' s' ∧ (∃ s₀ H₀, St B' ρ H₀ s₀ ∧ Fresh new s₀ s') ∧ ∀ B'', Grow Bi B'' → (∀ p ∈ new, B'' p.1 = some p.2) → Inv (i + 1) H' B''

theorem forLoop_rel {te : PySem.Expr} {body : List Stmt} {items : List AV} {It0 : Addr} {fp wr : List Addr} {P : Nat → Value → Prop} {Stt : Nat → Heap → Prop} {ρ₂ : List Addr} {R : Result → Shared → Prop} (Inv : Nat → Hp → Base → Prop)
    (hA : A.handled = none) (T : It prog w B items ρ₂ It0 fp wr P Stt) (p₂ : ρ₂ <+: ρ) (c : Here h₀ B ρ ae env H s A n) (hap : Apart ρ H fp) (hst : Stt 0 s.heap) (h0 : Inv 0 H B)
    (turn : ∀ i v, items[i]? = some v → ∀ Hi Bi B' s' u E, Inv i Hi Bi → Grow Bi B' → (∀ b o, h₀.get? b = some o → B' b = some o) → St B' ρ Hi s' → VR ρ v u →
      wpAny (model prog w) A (assign te env u) (fun _ s₂ => wpAny (model prog w) A (execs body env) (BodyOut Inv i Bi B' ρ s') E s₂) E s')
    (hR : ∀ s' Hn Bn, Grow B Bn → (∀ a ∈ ρ, B a = none → Bn a = none) → Inv items.length Hn Bn → Same s s' → St Bn ρ Hn s' → R (.ok .next) s') :
    codeAny (model prog w) A (.forLoop te (.ref It0) body [] env) R s := by
  refine veil (fun (q : Nat) (s' : Shared) => ∃ i Hi Bi, q = items.length + 1 - i ∧ i ≤ items.length ∧ Same s s' ∧ Grow B Bi ∧ (∀ a ∈ ρ, B a = none → Bi a = none) ∧ (∀ b ∈ wr, Bi b = none) ∧ St Bi ρ Hi s' ∧ Apart ρ Hi fp ∧ Stt i s'.heap ∧ Inv i Hi Bi) fun IV mk un => ?_
  refine codeAny_forLoop_any IV ?_ (items.length + 1) (mk _ _ ⟨0, H, B, rfl, Nat.zero_le _, Same.refl _, Grow.refl _, (fun _ _ e => e), T.nb, c.S, hap, hst, h0⟩)
  intro q s' iv
  refine hide fun GG hGG => ?_
  obtain ⟨i, Hi, Bi, rfl, hi, sm, gr, kρ, nb, S, ha, st, inv⟩ := un _ _ iv
  refine hGG ?_
  clear hGG GG
  clear iv un
  by_cases hlt : i < items.length
  · refine (T.W A hA).item i _ _ _ hlt st fun u h₁ tk₁ hP st₁ hk₁ => ?_
    obtain ⟨a, hia, hav⟩ := T.val i u hP
    have S₁ := S.step hk₁ (T.al i _ st) nb tk₁
    have S₁o := S₁.over ha
    have hBi : ∀ b o, h₀.get? b = some o → Bi b = some o := fun b o e => gr b o (c.hB b o e)
    have hB₁ := over_hB (fp := fp) hBi S₁
    have gov : Grow Bi (Bi.over fp h₁) := grow_over S₁.kept
    refine T.go _ _ _ _ _ _ _ st₁ ?_
    refine wpAny_mono (turn i a hia Hi Bi _ _ u _ inv gov hB₁ S₁o (hav.mono p₂)) (fun _ s₂ q => wpAny_mono q (fun f s₃ q => ?_) fun _ _ e => e) fun _ _ e => e
    refine hide fun GG hGG => ?_
    obtain ⟨rfl, Hj, new, smj, Sj, ⟨s₀, H₀, S₀, F⟩, inv'⟩ := q
    have S₂ := Sj.plus F fun c hc => S₀.stand hc
    obtain ⟨Sb, hapj, hfp, hln⟩ := settle (T.inn _ _ st₁) S₁.kept S₀ S₂ F.was
    refine hGG ?_
    clear hGG GG
    refine ⟨items.length + 1 - (i + 1), loop_less hlt, mk _ _ ⟨i + 1, Hj, Bi.plus new, rfl, hlt, sm.trans ((Same.mk s' h₁ tk₁).trans smj), gr.trans (grow_plus F.was fun b o e => S₀.kept b o (gov b o e)), fun a ha hB => ?_, fun b hb => ?_, Sb, hapj, (T.W A hA).frame _ _ _ st₁ fun b hb o e => hfp b hb o e,
      inv' _ (grow_plus F.was fun b o e => S₀.kept b o (gov b o e)) fun p hp => fresh_lookup F hp _⟩⟩
    · obtain ⟨q, hq⟩ := S₀.stand ha
      unfold Base.plus
      rw [plus_none F.was hq]; exact kρ a ha hB
    · unfold Base.plus
      rw [hln b ((T.W A hA).sub b hb)]; exact nb b hb
  · have hin : i = items.length := by omega
    subst hin
    refine (T.W A hA).done _ _ _ st fun h₁ tk₁ hk₁ => ?_
    exact wpAny_execs_nil (hR _ Hi Bi gr kρ inv (sm.trans (Same.mk s' h₁ tk₁)) (S.step hk₁ (T.al _ _ st) nb tk₁))

theorem for_rel (G : Gd prog w cx h₀) (I : Snd prog w h₀ ih n) {te iter : PySem.Expr} {body : List Stmt} {pos : Pos} {items : List AV} {fr : Option Nat} {Q : Flow → Shared → Prop} (Inv : Nat → Hp → Base → Prop) (c : Here h₀ B ρ ae env H s A n)
    (hit : itemsOf cx ih ae H (cE m iter) = some (items, fr, H1)) (h0 : Inv 0 H1 B)
    (turn : ∀ i v, items[i]? = some v → ∀ Hi Bi B' ρ' s' u E, Inv i Hi Bi → Grow Bi B' → (∀ b o, h₀.get? b = some o → B' b = some o) → EnvOk ρ' ae env → St B' ρ' Hi s' → VR ρ' v u →
      wpAny (model prog w) A (assign te env u) (fun _ s₂ => wpAny (model prog w) A (execs body env) (BodyOut Inv i Bi B' ρ' s') E s₂) E s')
    (hQ : ∀ s' Hn Bn ρ', Grow B Bn → ρ <+: ρ' → Inv items.length Hn Bn → Same s s' → (∀ H2, thaw Hn fr = some H2 → St Bn ρ' H2 s') → Q .next s') :
    wpAny (model prog w) A (exec (.For te iter body [] pos) env) Q E s := by
  refine wpAny_For (wpAny_mono (items_sound G I c hit) (fun xv s₁ h₁ => wpAny_mono h₁ (fun it s₂ h₂ => ?_) fun _ _ e => e) fun _ _ e => e) (noSet I hit)
  refine hide fun GG hGG => ?_
  obtain ⟨ρ₀, s₀, sm₀, p₀, ht, It0, fp, wr, P, Stt, ρ₂, rfl, T, st, sm₂, p₂, S₂, hap⟩ := h₂
  refine hGG ?_
  clear hGG GG
  have c₂ := c.next (p₀.trans p₂) S₂
  refine forLoop_rel Inv c.R.handled T (List.prefix_refl _) c₂ hap st h0 (fun i v hv Hi Bi B' s' u E' inv g hb S' hu => turn i v hv Hi Bi B' ρ₂ s' u E' inv g hb c₂.V S' hu) fun s' Hn Bn g kρ inv sm S' => ?_
  refine hQ s' Hn Bn ρ₂ g (p₀.trans p₂) inv (sm₀.trans (sm₂.trans sm)) fun H2 h2 => ?_
  exact thaw_sound S' h2 fun k e => by obtain ⟨a, ha, hb⟩ := ht.mono p₂ k e; exact ⟨a, ha, kρ a (List.mem_of_getElem? ha) hb⟩

/-- what a comprehension comes to, in relation -/
noncomputable def CompShows (prog : Program) (w : World) (A : Around) (env : Env) (elt iter : PySem.Expr) (x : Str) (px : Pos) (ifs : List PySem.Expr) (scope : Scope) (pos : Pos) (B : Base) (ρ : List Addr) (s : Shared) (N : Nat) (Fin : Hp → Base → Prop) : Prop :=
  ∀ (use : Option (Value → Sem Unit)) (Q : Value → Shared → Prop) (E : Value → Shared → Prop), (∀ H' B', Grow B B' → Fin H' B' → UseOk prog w A E B' ρ s (.obj N) H' use Q) →
    ∀ fpos, wpAny (model prog w) A (comprehension (.ListComp elt [⟨.Name x px, iter, ifs, 0⟩] scope pos) scope env fpos (newList []) false (eval iter env) use) Q E s
theorem eval_rel {elt iter : PySem.Expr} {x : Str} {px : Pos} {ifs : List PySem.Expr} {scope : Scope} {pos : Pos} {N : Nat} {Fin : Hp → Base → Prop} {Q : Value → Shared → Prop}
    (hC : CompShows prog w A env elt iter x px ifs scope pos B ρ s N Fin)
    (hQ : ∀ H' B', Grow B B' → Fin H' B' → ∀ z s' ρ', Same s s' → ρ <+: ρ' → VR ρ' (.obj N) z → St B' ρ' H' s' → Q z s') :
    wpAny (model prog w) A (eval (.ListComp elt [⟨.Name x px, iter, ifs, 0⟩] scope pos) env) Q E s := by
  show wpAny _ _ (comprehension _ scope env _ (newList []) false (eval iter env)) _ _ _
  refine hC none Q E (fun H' B' g f => ?_) _
  rintro z s' ⟨sm, ρ', p, hz, S⟩
  exact hQ H' B' g f z s' ρ' sm p hz S
theorem asg_rel {elt iter : PySem.Expr} {x y : Str} {px py : Pos} {ifs : List PySem.Expr} {scope : Scope} {pos spos : Pos} {N : Nat} {Fin : Hp → Base → Prop} {Q : Flow → Shared → Prop} (V : EnvOk ρ ae env)
    (hC : CompShows prog w A env elt iter x px ifs scope pos B ρ s N Fin)
    (hQ : ∀ H' B', Grow B B' → Fin H' B' → ∃ H2, wrVar ae H' y (.obj N) = some H2 ∧ ∀ s' ρ', Same s s' → ρ <+: ρ' → St B' ρ' H2 s' → Q .next s') :
    wpAny (model prog w) A (exec (.Assign [.Name y py] (.ListComp elt [⟨.Name x px, iter, ifs, 0⟩] scope pos) spos) env) Q E s := by
  cases hb : (env.blockKind == .function && env.kindOf y == some .local && py.line == pos.line && !(scope.names.any fun (n, k) => n == y && (k == .local || k == .cell))) with
  | false =>
    have hs : swapsWith (.ListComp elt [⟨.Name x px, iter, ifs, 0⟩] scope pos) (some (.Name y py)) spos.line env = pure false := by show (pure _ : Sem Bool) = _; rw [← hb]; rfl
    refine wpAny_Assign_Name (eval_rel hC fun H' B' g f z s' ρ' sm p hz S => ?_) hs
    obtain ⟨H2, hw, hk⟩ := hQ H' B' g f
    exact wrVar_sound hw (V.mono p) S hz fun s'' sm' S' => hk s'' ρ' (sm.trans sm') p S'
  | true =>
    have hs : swapsWith (.ListComp elt [⟨.Name x px, iter, ifs, 0⟩] scope pos) (some (.Name y py)) spos.line env = pure true := by show (pure _ : Sem Bool) = _; rw [← hb]; rfl
    rw [exec_Assign_Name_used _ _ _ _ hs]
    refine wpAny_bind (wpAny_standAt (wpAny_bind ?_))
    show wpAny _ _ (do let _ ← comprehension _ scope env _ (newList []) false (eval iter env) (some (assign (.Name y py) env))) _ _ _
    refine wpAny_bind (wpAny_mono (hC (some (assign (.Name y py) env)) (fun _ s' => Q .next s') E (fun H' B' g f => ?_) _) (fun _ s' q => wpAny_pure (wpAny_pure q)) fun _ _ e => e)
    obtain ⟨H2, hw, hk⟩ := hQ H' B' g f
    intro B'' z s₁ ρ₁ hBB sm p hz S₁
    refine wpAny_assign_Name (wrVar_sound hw (V.mono p) S₁ hz fun s' sm' S' => ⟨H2, sm', S', fun s₃ sm₃ S₃ => ?_⟩)
    exact hk s₃ ρ₁ (sm.trans (sm'.trans sm₃)) p S₃
end
end Mine

namespace Mine
open PySem PySem.Calls PyProof.Rows PySem.W

/-- a heap's things, but those at some places -/
noncomputable def Base.less (ms : List Addr) (h : Heap) : Base := fun b => if b ∈ ms then none else h.get? b
section
variable {B : Base} {ρ as ms : List Addr} {H Hs : Hp} {s s' : Shared} {h : Heap}
theorem less_of {b : Addr} (hb : b ∉ ms) {o : Obj} (e : h.get? b = some o) : Base.less ms h b = some o := by
  unfold Base.less; rw [if_neg hb]; exact e
theorem less_is {b : Addr} {o : Obj} (e : Base.less ms h b = some o) : h.get? b = some o := by
  unfold Base.less at e
  split at e
  · cases e
  · exact e
theorem small_st (hlen : as.length = Hs.length) (nd : as.Nodup) (hm : ∀ (i : Nat) (a : Addr) (o : AObj), as[i]? = some a → Hs[i]? = some o → isMut o = true → a ∈ ms)
    (hobj : ∀ (i : Nat) (a : Addr) (o : AObj), as[i]? = some a → Hs[i]? = some o → ObjIs as s.heap a o) : St (Base.less ms s.heap) as Hs s :=
  ⟨fun _ _ e => less_is e, hlen, nd, fun i a o e1 e2 h2 => by unfold Base.less; rw [if_pos (hm i a o e1 e2 h2)], hobj⟩
theorem less_kept (S : St (Base.less ms h) as H s') : ∀ b o, b ∉ ms → h.get? b = some o → s'.heap.get? b = some o := fun b o hb e => S.kept b o (less_of hb e)
theorem St.frame (S : St B ρ H s) (hk : ∀ b o, b ∉ ms → s.heap.get? b = some o → s'.heap.get? b = some o) (hms : ∀ b ∈ ms, B b = none)
    (hob : ∀ (i : Nat) (a : Addr) (o : AObj), ρ[i]? = some a → H[i]? = some o → a ∈ ms → ObjIs ρ s'.heap a o) : St B ρ H s' :=
  ⟨fun b o e => hk b o (fun hb => by rw [hms b hb] at e; cases e) (S.kept b o e), S.len, S.nodup, S.own, fun i a o e1 e2 => by
    by_cases ha : a ∈ ms
    · exact hob i a o e1 e2 ha
    · exact (S.objs i a o e1 e2).mono (List.prefix_refl _) fun ob e => hk a ob ha e⟩
/-- what is new behind a run on a small heap -/
theorem less_new (S : St (Base.less ms s.heap) as H s') {j : Nat} {d : Addr} {o : AObj} (hd : as[j]? = some d) (ho : H[j]? = some o) (hm : isMut o = true) (hn : d ∉ ms) : s.heap.get? d = none := by
  have := S.own j d o hd ho hm
  unfold Base.less at this
  rwa [if_neg hn] at this

noncomputable def immO : AObj → Bool
  | .list xs => !xs.any isObj
  | .flist xs => !xs.any isObj
  | .tup xs => !xs.any isObj
  | .ns m => m.all fun p => !isObj p.2
  | .cell c => match c with | some v => !isObj v | none => true
theorem ObjIs.immO {ρ' : List Addr} {a : Addr} {o : AObj} (hi : Mine.immO o = true) (x : ObjIs ρ h a o) : ObjIs ρ' h a o := by
  cases o with
  | list xs => obtain ⟨z, vs, l, r⟩ := x; exact ⟨z, vs, l, r.imm (by simpa [Mine.immO] using hi)⟩
  | flist xs => obtain ⟨z, vs, l, r⟩ := x; exact ⟨z, vs, l, r.imm (by simpa [Mine.immO] using hi)⟩
  | tup xs => obtain ⟨z, vs, l, r⟩ := x; exact ⟨z, vs, l, r.imm (by simpa [Mine.immO] using hi)⟩
  | ns m =>
    obtain ⟨f, hn, hf⟩ := x
    refine ⟨f, hn, fun y u e => ?_⟩
    refine hide fun GG hGG => ?_
    obtain ⟨u', e', r⟩ := hf y u e
    obtain ⟨_, q⟩ := lkp_all (f := fun p => !isObj p.2) hi e
    refine hGG ?_
    clear hGG GG
    exact ⟨u', e', r.imm (by simpa using q)⟩
  | cell c =>
    obtain ⟨cw, hn, hf⟩ := x
    refine ⟨cw, hn, fun u e => ?_⟩
    obtain ⟨u', e', r⟩ := hf u e
    subst e
    exact ⟨u', e', r.imm (by simpa [Mine.immO] using hi)⟩

theorem cellsAt_shift {x : Str} (d : Nat) : ∀ (names : List (Str × NameKind)) (a : Nat), lkp x (cellsAt (a + d) names) = (lkp x (cellsAt a names)).map (· + d)
  | [], _ => rfl
  | (y, k) :: r, a => by
    have e : a + d + 1 = a + 1 + d := by omega
    cases k <;> simp only [cellsAt] <;> first | exact cellsAt_shift d r a | skip
    rw [e]
    simp only [lkp]
    cases hs : seq x y with
    | true => rfl
    | false => exact cellsAt_shift d r (a + 1)
end

section
variable {prog : Program} {w : World} {cx : Cx} {h₀ : Heap} {ih : Ev} {n m : Nat}
variable {B : Base} {ρ : List Addr} {H H' H1 H2 : Hp} {s : Shared} {ae : AEnv} {env : Env} {A : Around} {E : Value → Shared → Prop} {v : AV}

/-- a block's own things alone: the small state -/
structure Own (B : Base) (ρ : List Addr) (Hb own : Hp) (s : Shared) (names : List (Str × NameKind)) (cl : List (Str × Nat)) (env : Env) (h₀ : Heap) : Prop where
  V : EnvOk ρ ⟨names, Hb.length, cellsAt (Hb.length + 1) names ++ cl⟩ env
  S : St B ρ (Hb ++ own) s
  hB : ∀ b o, h₀.get? b = some o → B b = some o
  imm : own.all immO = true
  mt : own.all isMut = true

theorem Own.as_get {Hb own : Hp} {names : List (Str × NameKind)} {cl : List (Str × Nat)} (O : Own B ρ Hb own s names cl env h₀) {i : Nat} : (ρ.drop Hb.length)[i]? = ρ[Hb.length + i]? := by rw [List.getElem?_drop]
theorem Own.ok {Hb own : Hp} {names : List (Str × NameKind)} {cl : List (Str × Nat)} (O : Own B ρ Hb own s names cl env h₀) : EnvOk (ρ.drop Hb.length) ⟨names, 0, cellsAt 1 names⟩ env :=
  ⟨O.V.kind, O.V.glob, O.V.bn, by rw [O.as_get]; exact O.V.loc, O.V.names, fun x k e => by
    have h1 := cellsAt_shift (x := x) Hb.length names 1
    rw [show 1 + Hb.length = Hb.length + 1 by omega, e] at h1
    obtain ⟨a, ha, hr⟩ := O.V.cells x (k + Hb.length) (by rw [lkp_app, h1]; rfl)
    exact ⟨a, ha, by rw [O.as_get, Nat.add_comm]; exact hr⟩⟩
theorem Own.st {Hb own : Hp} {names : List (Str × NameKind)} {cl : List (Str × Nat)} (O : Own B ρ Hb own s names cl env h₀) : St (Base.less (ρ.drop Hb.length) s.heap) (ρ.drop Hb.length) own s := by
  refine small_st ?_ (List.Nodup.sublist (List.drop_sublist _ _) O.S.nodup) (fun i a o e _ _ => List.mem_of_getElem? e) fun i a o e1 e2 => ?_
  · rw [List.length_drop, O.S.len, List.length_append]; omega
  · rw [O.as_get] at e1
    refine (O.S.objs (Hb.length + i) a o e1 ?_).immO (List.all_eq_true.mp O.imm o (List.mem_of_getElem? e2))
    rw [List.getElem?_append_right (by omega), Nat.add_sub_cancel_left]; exact e2
theorem Own.none {Hb own : Hp} {names : List (Str × NameKind)} {cl : List (Str × Nat)} (O : Own B ρ Hb own s names cl env h₀) : ∀ b ∈ ρ.drop Hb.length, B b = none := by
  intro b hb
  obtain ⟨i, hi, e⟩ := List.mem_iff_getElem.mp hb
  have e1 : (ρ.drop Hb.length)[i]? = some b := by rw [List.getElem?_eq_getElem hi, e]
  rw [O.as_get] at e1
  have hlt : Hb.length + i < (Hb ++ own).length := by rw [← O.S.len]; exact (List.getElem?_eq_some_iff.mp e1).1
  have e2 := List.getElem?_eq_getElem hlt
  have hm : (Hb ++ own)[Hb.length + i] ∈ own := by
    rw [List.getElem_append_right (by omega)]; exact List.getElem_mem _
  exact O.S.own _ b _ e1 e2 (List.all_eq_true.mp O.mt _ hm)
theorem Own.base {Hb own : Hp} {names : List (Str × NameKind)} {cl : List (Str × Nat)} (O : Own B ρ Hb own s names cl env h₀) : ∀ b o, h₀.get? b = some o → Base.less (ρ.drop Hb.length) s.heap b = some o := fun b o e =>
  less_of (fun hb => by have := O.none b hb; rw [O.hB b o e] at this; cases this) (O.S.kept b o (O.hB b o e))
theorem Own.back {Hb own T : Hp} {names : List (Str × NameKind)} {cl : List (Str × Nat)} (O : Own B ρ Hb own s names cl env h₀) {as' : List Addr} {s' : Shared} (p : ρ.drop Hb.length <+: as') (S' : St (Base.less (ρ.drop Hb.length) s.heap) as' (own ++ T) s') : St B ρ (Hb ++ own) s' := by
  refine O.S.frame (less_kept S') O.none fun i a o e1 e2 ha => ?_
  obtain ⟨j, hj, e⟩ := List.mem_iff_getElem.mp ha
  have e3 : (ρ.drop Hb.length)[j]? = some a := by rw [List.getElem?_eq_getElem hj, e]
  have e4 := e3
  rw [O.as_get] at e4
  have hij := O.S.inj e1 e4
  subst hij
  rw [List.getElem?_append_right (by omega), Nat.add_sub_cancel_left] at e2
  refine (S'.objs j a o (get_pre p e3) ?_).immO (List.all_eq_true.mp O.imm o (List.mem_of_getElem? e2))
  rw [List.getElem?_append_left (List.getElem?_eq_some_iff.mp e2).1]; exact e2

/-- a run on the block's own things -/
theorem own_e (G : Gd prog w cx h₀) {k : Nat} {Hb own T : Hp} {names : List (Str × NameKind)} {cl : List (Str × Nat)} {elt : PySem.Expr} {r : AV} (O : Own B ρ Hb own s names cl env h₀) (hA : Rm A (cx.r + k))
    (hrun : (evN cx k).e ⟨names, 0, cellsAt 1 names⟩ own (cE m elt) = some (r, own ++ T)) :
    wpAny (model prog w) A (eval elt env) (fun z s' => Same s s' ∧ St B ρ (Hb ++ own) s' ∧ ∃ as', ρ.drop Hb.length <+: as' ∧ VR as' r z ∧ St (Base.less (ρ.drop Hb.length) s.heap) as' (own ++ T) s') E s :=
  wpAny_mono ((evN_sound G k).e m elt _ env _ _ own s A r _ hrun O.base O.ok O.st hA E) (fun z s' q => by
    refine hide fun GG hGG => ?_
    obtain ⟨sm, as', p, hz, S'⟩ := q
    refine hGG ?_
    clear hGG GG
    exact ⟨sm, O.back p S', as', p, hz, S'⟩) fun _ _ e => e
/-- a list that stands for good -/
noncomputable def PLo (o : Obj) (xs : List AV) : Prop := xs.length ≤ lim ∧ ∃ n vs, o = { cls := .type "list", data := .seq (List.toArray vs) n } ∧ VRs [] xs vs
noncomputable def PL (B : Base) (d : Addr) (xs : List AV) : Prop := ∃ o, B d = some o ∧ PLo o xs
theorem PL.grow {B' : Base} {d : Addr} {xs : List AV} (x : PL B d xs) (g : Grow B B') : PL B' d xs := let ⟨o, e, q⟩ := x; ⟨o, g _ _ e, q⟩
theorem PL.at {d : Addr} {xs : List AV} (x : PL B d xs) (k : ∀ b o, B b = some o → s.heap.get? b = some o) (as : List Addr) : ObjIs as s.heap d (.flist xs) := by
  refine hide fun GG hGG => ?_
  obtain ⟨o, e, z, n, vs, rfl, hv⟩ := x
  refine hGG ?_
  clear hGG GG
  exact ⟨z, vs, ⟨n, k _ _ e⟩, hv.mono List.nil_prefix⟩
/-- a list that a run on the block's own things made, laid down for good -/
theorem own_list {Hb own T : Hp} {names : List (Str × NameKind)} {cl : List (Str × Nat)} (O : Own B ρ Hb own s names cl env h₀) {as' : List Addr} {s' : Shared} (p : ρ.drop Hb.length <+: as') (S' : St (Base.less (ρ.drop Hb.length) s.heap) as' (own ++ T) s') {j : Nat} {d : Addr} {xs : List AV}
    (hd : as'[own.length + j]? = some d) (hT : T[j]? = some (.list xs)) (hx : xs.any isObj = false) : ∃ o, s.heap.get? d = none ∧ s'.heap.get? d = some o ∧ PLo o xs := by
  have ho : (own ++ T)[own.length + j]? = some (.list xs) := by rw [List.getElem?_append_right (by omega), Nat.add_sub_cancel_left]; exact hT
  have hn : d ∉ ρ.drop Hb.length := fun hm => by
    obtain ⟨i, hi, e⟩ := List.mem_iff_getElem.mp hm
    have e3 : (ρ.drop Hb.length)[i]? = some d := by rw [List.getElem?_eq_getElem hi, e]
    have := S'.inj (get_pre p e3) hd
    have hl : (ρ.drop Hb.length).length = own.length := O.st.len
    omega
  refine hide fun GG hGG => ?_
  obtain ⟨z, vs, ⟨n, e⟩, hv⟩ := S'.objs _ d _ hd ho
  refine hGG ?_
  clear hGG GG
  exact ⟨_, less_new S' hd ho rfl hn, e, z, n, vs, rfl, hv.imm hx⟩
end
end Mine

namespace Mine
open PySem PySem.Calls PyProof.Rows PySem.W

section
variable {prog : Program} {w : World} {cx : Cx} {h₀ : Heap} {ih : Ev} {n m k : Nat}
variable {B : Base} {ρ : List Addr} {H H' H1 H2 : Hp} {s : Shared} {ae : AEnv} {env : Env} {A : Around} {E : Value → Shared → Prop} {v : AV}

/-- a comprehension's own things, as its variable is bound -/
structure OwnKind (x : Str) (names : List (Str × NameKind)) (own : Option AV → Hp) : Prop where
  zero : ∀ N, own none = .ns [] :: (cellsAt N names).map fun _ => .cell none
  ns : ∀ o, ∃ mm r, own o = .ns mm :: r
  wr : ∀ (H1 : Hp) ys o v cl, wrVar ⟨names, H1.length + 1, cellsAt (H1.length + 2) names ++ cl⟩ (H1 ++ (.list ys :: own o)) x v = some (H1 ++ (.list ys :: own (some v)))
  imm : ∀ v, isObj v = false → (own (some v)).all immO = true
  mt : ∀ v, (own (some v)).all isMut = true
noncomputable def ownL (x : Str) : Option AV → Hp
  | none => [.ns []]
  | some v => [.ns [(x, v)]]
noncomputable def ownC : Option AV → Hp
  | none => [.ns [], .cell none]
  | some v => [.ns [], .cell (some v)]
theorem ownL_kind {x : Str} {names : List (Str × NameKind)} (hx : lkp x names = some .local) (hc : ∀ N, cellsAt N names = []) : OwnKind x names (ownL x) := by
  refine ⟨fun N => by rw [hc]; rfl, fun o => by cases o <;> exact ⟨_, _, rfl⟩, fun H1 ys o v cl => ?_, fun v hv => by simp [ownL, immO, hv], fun v => rfl⟩
  unfold wrVar
  simp only [hx]
  have e : ∃ mm, (H1 ++ (AObj.list ys :: ownL x o))[H1.length + 1]? = some (.ns mm) ∧ (H1 ++ (AObj.list ys :: ownL x o)).set (H1.length + 1) (.ns (putv x v mm)) = H1 ++ (AObj.list ys :: ownL x (some v)) := by
    cases o with
    | none => exact ⟨[], by simp [ownL], by simp [ownL, putv]⟩
    | some u => exact ⟨[(x, u)], by simp [ownL], by simp [ownL, putv, seq_self]⟩
  obtain ⟨mm, e1, e2⟩ := e
  rw [e1]
  simp only [e2]
theorem ownC_kind {x : Str} {names : List (Str × NameKind)} (hx : lkp x names = some .cell) (hc : ∀ N, cellsAt N names = [(x, N)]) : OwnKind x names ownC := by
  refine ⟨fun N => by rw [hc]; rfl, fun o => by cases o <;> exact ⟨_, _, rfl⟩, fun H1 ys o v cl => ?_, fun v hv => by simp [ownC, immO, hv], fun v => rfl⟩
  unfold wrVar
  simp only [hx, hc, List.cons_append, lkp, seq_self]
  have e : ∃ c, (H1 ++ (AObj.list ys :: ownC o))[H1.length + 2]? = some (.cell c) := by cases o <;> exact ⟨_, by simp [ownC]; rfl⟩
  obtain ⟨c, e⟩ := e
  rw [e]
  cases o <;> simp [ownC]

theorem take_map {α β : Type} {f : α → β} {l : List α} {i : Nat} {v : α} (h : l[i]? = some v) : (l.take i).map f ++ [f v] = (l.take (i + 1)).map f := by
  rw [List.take_add_one, h]; simp
theorem tests_nil {Q : Bool → Shared → Prop} (h : Q true s) : wpAny (model prog w) A (tests [] env) Q E s := by
  unfold tests
  rw [List.forIn_nil]; exact wpAny_pure h
theorem own_of {own : Hp} {ys : List AV} {names : List (Str × NameKind)} {cl : List (Str × Nat)} (V : EnvOk ρ ⟨names, H1.length + 1, cellsAt (H1.length + 2) names ++ cl⟩ env) (S : St B ρ (H1 ++ (.list ys :: own)) s) (hB : ∀ b o, h₀.get? b = some o → B b = some o)
    (him : own.all immO = true) (hmt : own.all isMut = true) : Own B ρ (H1 ++ [.list ys]) own s names cl env h₀ :=
  ⟨by simpa using V, by simpa using S, hB, him, hmt⟩

/-- each element is worked out from the block's own things: no new things are left -/
theorem comp_map (G : Gd prog w cx h₀) {elt iter : PySem.Expr} {x : Str} {px : Pos} {scope : Scope} {pos : Pos} {items : List AV} {fr : Option Nat} {cl : List (Str × Nat)} {own : Option AV → Hp} (f : AV → AV)
    (c : Here h₀ B ρ ae env H s A (cx.r + k)) (hsc : scopeOk scope = true) (hit : itemsOf cx (evN cx k) ae H (cE m iter) = some (items, fr, H1)) (hcl : closure ae.cells scope.names = some cl) (K : OwnKind x scope.names own)
    (hth : ∀ t, thaw (H1 ++ t) fr = some (H2 ++ t)) (h12 : H2.length = H1.length) (hlow : H2.all (lowO H1.length) = true) (hlen : items.length < lim)
    (run : ∀ v ∈ items, isObj v = false ∧ isObj (f v) = false ∧ ∃ T, (evN cx k).e ⟨scope.names, 0, cellsAt 1 scope.names⟩ (own (some v)) (cE m elt) = some (f v, own (some v) ++ T)) :
    CompShows prog w A env elt iter x px [] scope pos B ρ s H1.length (fun H' B' => H' = H2 ++ [.list (items.map f)]) := by
  intro use Q E hQ fpos
  refine comp_rel G (evN_sound G k) (fun i ys _ => ys = (items.take i).map f ∧ i ≤ items.length) c hsc hit hcl (K.zero _) K.ns (fun o v ys => K.wr H1 ys o v cl) hth h12 hlow hlen ⟨rfl, Nat.zero_le _⟩ ?_ ?_ ?_
  · rintro i ys _ ⟨rfl, hi⟩
    refine ⟨by rw [List.length_map, List.length_take]; omega, ?_⟩
    rw [Bool.eq_false_iff]
    intro h
    refine hide fun GG hGG => ?_
    obtain ⟨y, hy, ho⟩ := List.any_eq_true.mp h
    obtain ⟨u, hu, rfl⟩ := List.mem_map.mp hy
    refine hGG ?_
    clear hGG GG
    rw [(run u (List.mem_of_mem_take hu)).2.1] at ho; cases ho
  · rintro i v hv ys Bi B' ρ' env' s' E' ⟨rfl, hi⟩ g hB V S
    refine hide fun GG hGG => ?_
    obtain ⟨hv1, hf1, T, hrun⟩ := run v (List.mem_of_getElem? hv)
    refine hGG ?_
    clear hGG GG
    have O := own_of V S hB (K.imm v hv1) (K.mt v)
    refine tests_nil (wpAny_mono (own_e G O c.R hrun) (fun z s'' q => ?_) fun _ _ e => e)
    refine hide fun GG hGG => ?_
    obtain ⟨sm, S', as', p, hz, _⟩ := q
    refine hGG ?_
    clear hGG GG
    refine ⟨f v, [], sm, by simpa using S', hz.imm hf1, Fresh.nil _ _, fun B'' _ _ => ⟨take_map hv, ?_⟩⟩
    have := (List.getElem?_eq_some_iff.mp hv).1
    omega
  · rintro ys B' g ⟨rfl, _⟩
    rw [List.take_length]
    exact hQ _ B' g rfl

/-- each element is a new list, worked out from the block's own things -/
theorem comp_lists (G : Gd prog w cx h₀) {elt iter : PySem.Expr} {x : Str} {px : Pos} {scope : Scope} {pos : Pos} {items : List AV} {fr : Option Nat} {cl : List (Str × Nat)} {own : Option AV → Hp} (f : AV → List AV)
    (c : Here h₀ B ρ ae env H s A (cx.r + k)) (hsc : scopeOk scope = true) (hit : itemsOf cx (evN cx k) ae H (cE m iter) = some (items, fr, H1)) (hcl : closure ae.cells scope.names = some cl) (K : OwnKind x scope.names own)
    (hth : ∀ t, thaw (H1 ++ t) fr = some (H2 ++ t)) (h12 : H2.length = H1.length) (hlow : H2.all (lowO H1.length) = true) (hlen : items.length < lim)
    (run : ∀ v ∈ items, isObj v = false ∧ (f v).any isObj = false ∧ ∃ T j, (evN cx k).e ⟨scope.names, 0, cellsAt 1 scope.names⟩ (own (some v)) (cE m elt) = some (.obj ((own (some v)).length + j), own (some v) ++ T) ∧ T[j]? = some (.list (f v))) :
    CompShows prog w A env elt iter x px [] scope pos B ρ s H1.length (fun H' B' => ∃ ds : List Addr, H' = H2 ++ [.list (ds.map .gref)] ∧ ds.length = items.length ∧ ds.Nodup ∧ ∀ (j : Nat) (d : Addr) (v : AV), ds[j]? = some d → items[j]? = some v → PL B' d (f v)) := by
  intro use Q E hQ fpos
  refine comp_rel G (evN_sound G k) (fun i ys B' => ∃ ds : List Addr, ys = ds.map .gref ∧ ds.length = i ∧ ds.Nodup ∧ i ≤ items.length ∧ ∀ (j : Nat) (d : Addr) (v : AV), ds[j]? = some d → items[j]? = some v → PL B' d (f v)) c hsc hit hcl (K.zero _) K.ns (fun o v ys => K.wr H1 ys o v cl) hth h12 hlow hlen ⟨[], rfl, rfl, List.nodup_nil, Nat.zero_le _, fun j d v e => by simp at e⟩ ?_ ?_ ?_
  · rintro i ys _ ⟨ds, rfl, hl, _⟩
    refine ⟨by rw [List.length_map]; omega, ?_⟩
    rw [Bool.eq_false_iff]
    intro h
    refine hide fun GG hGG => ?_
    obtain ⟨y, hy, ho⟩ := List.any_eq_true.mp h
    obtain ⟨u, hu, rfl⟩ := List.mem_map.mp hy
    refine hGG ?_
    clear hGG GG
    cases ho
  · rintro i v hv ys Bi B' ρ' env' s' E' ⟨ds, rfl, hl, hnd, hi, hds⟩ g hB V S
    refine hide fun GG hGG => ?_
    obtain ⟨hv1, hf1, T, j, hrun, hT⟩ := run v (List.mem_of_getElem? hv)
    refine hGG ?_
    clear hGG GG
    have O := own_of V S hB (K.imm v hv1) (K.mt v)
    refine tests_nil (wpAny_mono (own_e G O c.R hrun) (fun z s'' q => ?_) fun _ _ e => e)
    refine hide fun GG hGG => ?_
    obtain ⟨sm, S', as', p, ⟨d, hd, rfl⟩, S''⟩ := q
    obtain ⟨o, hn, ho, hP⟩ := own_list O p S'' hd hT hf1
    refine hGG ?_
    clear hGG GG
    refine ⟨.gref d, [(d, o)], sm, by simpa using S', rfl, ⟨fun q hq => by rw [List.mem_singleton.mp hq]; exact hn, fun q hq => by rw [List.mem_singleton.mp hq]; exact ho⟩, fun B'' g' hnew => ⟨ds ++ [d], by simp, by simp [hl], ?_, ?_, ?_⟩⟩
    · rw [List.nodup_append]
      refine ⟨hnd, by simp, fun a ha b hb e => ?_⟩
      rw [List.mem_singleton.mp hb] at e
      refine hide fun GG hGG => ?_
      obtain ⟨j', hj', e'⟩ := List.mem_iff_getElem.mp ha
      have hj2 : j' < items.length := by omega
      obtain ⟨oo, hoo, _⟩ := hds j' a _ (by rw [List.getElem?_eq_getElem hj', e']) (List.getElem?_eq_getElem hj2)
      refine hGG ?_
      clear hGG GG
      have := S.kept _ _ (g _ _ hoo)
      rw [e, hn] at this; cases this
    · have := (List.getElem?_eq_some_iff.mp hv).1
      omega
    · intro j' d' v' e1 e2
      by_cases hlt : j' < ds.length
      · rw [List.getElem?_append_left hlt] at e1
        exact (hds j' d' v' e1 e2).grow g'
      · rw [List.getElem?_append_right (by omega)] at e1
        have hj : j' = ds.length := by
          have := (List.getElem?_eq_some_iff.mp e1).1
          simp at this; omega
        rw [hj, Nat.sub_self] at e1
        rw [hj, hl, hv] at e2
        cases e2
        cases e1
        exact ⟨o, hnew (d, o) (by simp), hP⟩
  · rintro ys B' g ⟨ds, rfl, hl, hnd, _, hds⟩
    exact hQ _ B' g ⟨ds, rfl, hl, hnd, hds⟩
end
end Mine

namespace Mine
open PySem PySem.Calls PyProof.Rows PySem.W

/-! an exception that is caught in its own frame -/
structure Exc (base : Heap) (l : List Env) (e : Addr) (fl : Value) (h : Heap) : Prop where
  stays : base.StaysIn h
  fresh : base.get? e = none
  frames : h.FunFrames base l
  traced : ∃ a0, h.TracedAtW base e (.type "ValueError") a0 fl

section
variable {M : Model} {A : Around} {E : Value → Shared → Prop} {s : Shared} {base h0 : Heap} {env : Env} {outer l : List Env} {L e : Addr} {fl : Value}
theorem note_first {Q : Unit → Shared → Prop} (hfr : A.frames = some (env :: outer)) (hf : env.frame = some L) (hx : Heap.NewExc h0 s.heap e "ValueError") (hb : base.StaysIn h0) (hl : h0.FunFrames base (env :: outer))
    (k : ∀ h', Exc base (env :: outer) e (rawInt L) h' → h0.UpToSlots h' → Q () { s with heap := h' }) : wpAny M A (noteFrame (.ref e) env) Q E s := by
  refine hide fun GG hGG => ?_
  obtain ⟨ob, t, he, hcls, hd⟩ := hx.there
  refine hGG ?_
  clear hGG GG
  have hen : base.get? e = none := by
    cases hq : base.get? e with
    | none => rfl
    | some o' => have := hb e o' hq; rw [hx.new] at this; cases this
  unfold noteFrame
  simp only [hf]
  refine wpAny_bind (wpAny_field he hd (x := .none) rfl ?_)
  rw [if_neg (by decide)]
  refine wpAny_entryW hfr (hl.of_keeps fun b o hb _ => ⟨o, hx.keeps b o hb, rfl⟩) hf he (fun b o h => hx.keeps b o (hb b o h)) hen hd (by show 1 < 6; decide) (a0 := t) rfl fun h' hN => ?_
  refine hide fun GG hGG => ?_
  obtain ⟨k1, k2, k3, k4⟩ := hN
  refine hGG ?_
  clear hGG GG
  rw [hcls] at k3
  exact k h' ⟨k1, hen, k2, t, k3⟩ ((Heap.UpToSlots.of_keeps hx.keeps).trans k4)

theorem came_back (hf : env.frame = some L) (X : Exc base l e fl s.heap) (k : ∀ h', Exc base l e (rawInt L) h' → s.heap.UpToSlots h' → E (.ref e) { s with heap := h' }) : cameBackBy M A env E (.ref e) s := by
  refine hide fun GG hGG => ?_
  obtain ⟨hkb, hen, hl, a0, oe, vs, T, oT, ts, he, hcls, hd, h1, hnT, hTe, hT, hdT, h3⟩ := X
  refine hGG ?_
  clear hGG GG
  have hsz3 : 3 < ts.size := (Array.getElem?_eq_some_iff.mp h3).1
  have other : ∀ b, b ≠ T → (s.heap.update T (Obj.mapFields (·.setIfInBounds 3 (env.frame.elim Value.none fun f => rawInt f)))).get? b = s.heap.get? b :=
    fun b hb => Heap.get?_update_other _ _ (Ne.symm hb)
  have noRecord : ∀ b o, s.heap.get? b = some o → (∀ vs, o.data ≠ .fields vs) → b ≠ T := fun b o hb hnf q => by
    rw [q, hT] at hb; injection hb with hb; subst hb; exact hnf ts hdT
  unfold cameBackBy
  refine wpAny_bind (wpAny_field he hd h1 ?_)
  rw [if_neg (show ¬ ((Value.ref T == Value.none) = true) from by simp)]
  unfold setFlight
  refine wpAny_bind (wpAny_field he hd h1 ?_)
  rw [if_pos (show (Value.ref T != Value.none) = true from by simp)]
  refine wpAny_setField hT hdT hsz3 (k _ ⟨fun b o hbo => (other b fun q => by rw [q, hnT] at hbo; cases hbo).trans (hkb b o hbo), hen,
    hl.of_keeps fun b o hb hnf => ⟨o, (other b (noRecord b o hb hnf)).trans hb, rfl⟩, a0, ?_⟩ fun b o hb hnf => ⟨o.slots, (other b (noRecord b o hb hnf)).trans hb⟩)
  exact ⟨oe, vs, T, _, _, (other e (Ne.symm hTe)).trans he, hcls, hd, h1, hnT, hTe, Heap.get?_update_self _ hT (Obj.isFreed_of_fields (Obj.data_mapFields hdT _)), Obj.data_mapFields hdT _, by simp [hsz3, hf]⟩
theorem note_again {Q : Unit → Shared → Prop} (hf : env.frame = some L) (X : Exc base l e (rawInt L) s.heap) (h : Q () s) : wpAny M A (noteFrame (.ref e) env) Q E s := by
  refine hide fun GG hGG => ?_
  obtain ⟨_, _, _, a0, ht⟩ := X
  refine hGG ?_
  clear hGG GG
  exact wpAny_noteFrame_againW hf ht h
theorem flight_none {Q : Unit → Shared → Prop} (X : Exc base l e fl s.heap) (k : ∀ h', Exc base l e .none h' → s.heap.UpToSlots h' → Q () { s with heap := h' }) : wpAny M A (setFlight (.ref e) none) Q E s := by
  refine hide fun GG hGG => ?_
  obtain ⟨hkb, hen, hl, a0, ht⟩ := X
  refine hGG ?_
  clear hGG GG
  exact wpAny_setFlight_noneW hkb hl ht fun h' k1 k2 k3 k4 => k h' ⟨k1, hen, k2, a0, k3⟩ fun b o hb hn => ⟨o.slots, k4 b o hb hn⟩
end

/-- a heap without some things -/
noncomputable def killO (o : Obj) : Obj := { o with data := .freed }
noncomputable def kill (h : Heap) (L : Addr) : Heap := h.update L killO
theorem kill_self (h : Heap) (L : Addr) : (kill h L).get? L = none := by
  cases e : (kill h L).get? L with
  | none => rfl
  | some o =>
    exfalso
    obtain ⟨h1, h2⟩ := Heap.get?_some_iff.mp e
    unfold kill at h1
    cases h with
    | mk objs =>
    simp only [Heap.update, Array.getElem?_modify, if_true] at h1
    cases hx : objs[L]? with
    | none => rw [hx] at h1; cases h1
    | some u => rw [hx] at h1; cases h1; cases h2
theorem kill_other {h : Heap} {L b : Addr} (hb : b ≠ L) : (kill h L).get? b = h.get? b := Heap.get?_update_other h killO (Ne.symm hb)
theorem kill_sub {h : Heap} {L b : Addr} {o : Obj} (e : (kill h L).get? b = some o) : b ≠ L ∧ h.get? b = some o := by
  have hb : b ≠ L := fun q => by rw [q, kill_self] at e; cases e
  rw [kill_other hb] at e
  exact ⟨hb, e⟩
end Mine

namespace Mine
open PySem PySem.Calls PyProof.Rows PySem.W

/-! zip over three lists of one length -/
noncomputable abbrev IsTri (h : Heap) (T : Addr) (a b c : Value) : Prop := h.get? T = some { cls := .type "tuple", data := .seq #[a, b, c] }
structure Z3 (h : Heap) (z TI TO i1 i2 i3 l1 l2 l3 : Addr) (f0 : Value) (i : Nat) : Prop where
  zip : IsZip h z TI TO f0
  ti : IsTri h TI (.ref i1) (.ref i2) (.ref i3)
  to : ∃ a b c, IsTri h TO a b c
  it1 : h.IsListIter i1 l1 i
  it2 : h.IsListIter i2 l2 i
  it3 : h.IsListIter i3 l3 i
structure A3 (z TI TO i1 i2 i3 l1 l2 l3 : Addr) : Prop where
  nd : [z, TO, i1, i2, i3].Nodup
  ti : TI ∉ [z, TO, i1, i2, i3]
  l1 : l1 ∉ [z, TO, i1, i2, i3]
  l2 : l2 ∉ [z, TO, i1, i2, i3]
  l3 : l3 ∉ [z, TO, i1, i2, i3]

section
variable {prog : Program} {w : World} {A : Around} {E : Value → Shared → Prop} {s : Shared}
theorem updateSeq_tri {T : Addr} {a b c x : Value} {k : Nat} {Q : Unit → Shared → Prop} (hT : IsTri s.heap T a b c)
    (h : ∀ h', h'.get? T = some { cls := .type "tuple", data := .seq ((#[a, b, c] : Array Value).setIfInBounds k x) } → Heap.SameBut T s.heap h' → Q () { s with heap := h' }) :
    wpAny (model prog w) A (updateSeq T (·.setIfInBounds k x)) Q E s := by
  refine wpAny_updateSeq hT rfl (h _ ?_ (Heap.SameBut.update ..))
  rw [Heap.get?_update_self _ hT rfl]
  simp [Obj.mapSeq]

theorem zip3_item {z TI TO i1 i2 i3 l1 l2 l3 : Addr} {k : Nat} {xs ys zs : Array Value} {x y u : Value} {Q : Value → Shared → Prop} (D : A3 z TI TO i1 i2 i3 l1 l2 l3)
    (Z : Z3 s.heap z TI TO i1 i2 i3 l1 l2 l3 .none k) (hl1 : s.heap.IsList l1 xs) (hl2 : s.heap.IsList l2 ys) (hl3 : s.heap.IsList l3 zs) (hx : xs[k]? = some x) (hy : ys[k]? = some y) (hu : zs[k]? = some u)
    (hQ : ∀ h', Z3 h' z TI TO i1 i2 i3 l1 l2 l3 (rawInt s.heap.objs.size) (k + 1) → IsTri h' s.heap.objs.size x y u → (∀ c o, c ∉ [z, TO, i1, i2, i3] → s.heap.get? c = some o → h'.get? c = some o) → Q (.ref s.heap.objs.size) { s with heap := h' }) :
    wpAny (model prog w) A (Builtin.«zip.__next__» ⟨[.ref z], []⟩) (fun fin s' => ∃ v, fin = .done (.ret v) ∧ Q v s') E s := by
  refine hide fun GG hGG => ?_
  obtain ⟨hz, hTI, ⟨a, b, c, hTO⟩, h1, h2, h3⟩ := Z
  have nd := D.nd
  have dti := D.ti
  have d1 := D.l1
  have d2 := D.l2
  have d3 := D.l3
  simp only [List.nodup_cons, List.mem_cons, List.not_mem_nil, or_false, not_or, List.nodup_nil, and_true, not_false_iff] at nd dti d1 d2 d3
  obtain ⟨⟨n1, n2, n3, n4⟩, ⟨n5, n6, n7⟩, ⟨n8, n9⟩, n10⟩ := nd
  obtain ⟨t1, t2, t3, t4, t5⟩ := dti
  obtain ⟨a1, a2, a3, a4, a5⟩ := d1
  obtain ⟨b1, b2, b3, b4, b5⟩ := d2
  obtain ⟨c1, c2, c3, c4, c5⟩ := d3
  refine hGG ?_
  clear hGG GG
  show wpAny _ _ (field (.ref z) 2 >>= _) _ _ _
  refine wpAny_bind (wpAny_field hz rfl (x := .bool false) rfl ?_)
  show wpAny _ _ (field (.ref z) 3 >>= _) _ _ _
  refine wpAny_bind (wpAny_field hz rfl (x := .ref TI) rfl ?_)
  refine wpAny_bind (wpAny_seqItems hTI rfl ?_)
  show wpAny _ _ (Builtin.SmallTypes.ownedTupleIsFree (.ref z) >>= _) _ _ _
  refine wpAny_bind ?_
  unfold Builtin.SmallTypes.ownedTupleIsFree
  refine wpAny_bind (wpAny_field hz rfl (x := .none) rfl (wpAny_pure ?_))
  simp only [if_true]
  refine wpAny_bind (wpAny_rule ?_)
  refine wpAny_bind (wpAny_field hz rfl (x := .ref TO) rfl ?_)
  refine wpAny_bind (wpAny_setField_rec hz (by simp) fun h₁ hz₁ hs₁ => ?_)
  replace hz₁ : IsZip h₁ z TI TO .ellipsis := hz₁
  refine wpAny_bind ?_
  simp only [List.zipIdx_cons, List.zipIdx_nil, List.forIn_cons, List.forIn_nil]
  refine wpAny_bind (wpAny_bind (wpAny_onRaise ?_))
  show wpAny _ _ (Builtin.SmallTypes.nextOf (.ref i1) >>= _) _ _ _
  refine wpAny_bind (wpAny_nextOf_list_item (h1.extBut hs₁.extBut (Ne.symm n2)) (hl1.extBut hs₁.extBut a1) hx fun h₂ h1₂ hs₂ => wpAny_pure ?_)
  have hTO₂ : IsTri h₂ TO a b c := hs₂.extBut _ _ n5 (hs₁.extBut _ _ (Ne.symm n1) hTO)
  refine wpAny_bind (wpAny_seqItems hTO₂ rfl ?_)
  refine wpAny_bind (updateSeq_tri hTO₂ fun h₃ hTO₃ hs₃ => ?_)
  replace hTO₃ : IsTri h₃ TO x b c := hTO₃
  refine wpAny_bind (wpAny_letGo (wpAny_pure ?_))
  have k₃ : ∀ d o, d ≠ z → d ≠ i1 → d ≠ TO → s.heap.get? d = some o → h₃.get? d = some o := fun d o e1 e2 e3 e => hs₃.extBut _ _ e3 (hs₂.extBut _ _ e2 (hs₁.extBut _ _ e1 e))
  refine wpAny_bind (wpAny_bind (wpAny_onRaise ?_))
  show wpAny _ _ (Builtin.SmallTypes.nextOf (.ref i2) >>= _) _ _ _
  refine wpAny_bind (wpAny_nextOf_list_item (h2.at fun o e => k₃ _ o (Ne.symm n3) (Ne.symm n8) (Ne.symm n6) e) (hl2.at fun o e => k₃ _ o b1 b3 b2 e) hy fun h₄ h2₄ hs₄ => wpAny_pure ?_)
  have hTO₄ : IsTri h₄ TO x b c := hs₄.extBut _ _ n6 hTO₃
  refine wpAny_bind (wpAny_seqItems hTO₄ rfl ?_)
  refine wpAny_bind (updateSeq_tri hTO₄ fun h₅ hTO₅ hs₅ => ?_)
  replace hTO₅ : IsTri h₅ TO x y c := hTO₅
  refine wpAny_bind (wpAny_letGo (wpAny_pure ?_))
  have k₅ : ∀ d o, d ≠ i2 → d ≠ TO → h₃.get? d = some o → h₅.get? d = some o := fun d o e1 e2 e => hs₅.extBut _ _ e2 (hs₄.extBut _ _ e1 e)
  refine wpAny_bind (wpAny_bind (wpAny_onRaise ?_))
  show wpAny _ _ (Builtin.SmallTypes.nextOf (.ref i3) >>= _) _ _ _
  refine wpAny_bind (wpAny_nextOf_list_item (h3.at fun o e => k₅ _ o (Ne.symm n10) (Ne.symm n7) (k₃ _ o (Ne.symm n4) (Ne.symm n9) (Ne.symm n7) e)) (hl3.at fun o e => k₅ _ o c4 c2 (k₃ _ o c1 c3 c2 e)) hu fun h₆ h3₆ hs₆ => wpAny_pure ?_)
  have hTO₆ : IsTri h₆ TO x y c := hs₆.extBut _ _ n7 hTO₅
  refine wpAny_bind (wpAny_seqItems hTO₆ rfl ?_)
  refine wpAny_bind (updateSeq_tri hTO₆ fun h₇ hTO₇ hs₇ => ?_)
  replace hTO₇ : IsTri h₇ TO x y u := hTO₇
  refine wpAny_bind (wpAny_letGo (wpAny_pure (wpAny_pure ?_)))
  refine wpAny_bind (wpAny_seqItems hTO₇ rfl ?_)
  refine wpAny_bind (wpAny_newTuple ?_)
  have k₇ : ∀ d o, d ≠ i3 → d ≠ TO → h₅.get? d = some o → h₇.get? d = some o := fun d o e1 e2 e => hs₇.extBut _ _ e2 (hs₆.extBut _ _ e1 e)
  have hsz : h₇.objs.size = s.heap.objs.size := by rw [hs₇.1, hs₆.1, hs₅.1, hs₄.1, hs₃.1, hs₂.1, hs₁.1]
  have hz₇ : IsZip h₇ z TI TO .ellipsis := k₇ _ _ n4 n1 (k₅ _ _ n3 n1 (hs₃.extBut _ _ n1 (hs₂.extBut _ _ n2 hz₁)))
  have kall : ∀ d o, d ∉ [z, TO, i1, i2, i3] → s.heap.get? d = some o → h₇.get? d = some o := fun d o hd e => by
    simp only [List.mem_cons, List.not_mem_nil, or_false, not_or] at hd
    exact k₇ d o hd.2.2.2.2 hd.2.1 (k₅ d o hd.2.2.2.1 hd.2.1 (k₃ d o hd.1 hd.2.2.1 hd.2.1 e))
  have h1₇ : h₇.IsListIter i1 l1 (k + 1) := h1₂.at fun o e => k₇ _ o n9 (Ne.symm n5) (k₅ _ o n8 (Ne.symm n5) (hs₃.extBut _ _ (Ne.symm n5) e))
  have h2₇ : h₇.IsListIter i2 l2 (k + 1) := h2₄.at fun o e => k₇ _ o n10 (Ne.symm n6) (hs₅.extBut _ _ (Ne.symm n6) e)
  have h3₇ : h₇.IsListIter i3 l3 (k + 1) := h3₆.at fun o e => hs₇.extBut _ _ (Ne.symm n7) e
  have hzlt : z < h₇.objs.size := Heap.lt_size hz₇
  show wpAny _ _ (Builtin.SmallTypes.ownedTupleHandOut (.ref z) (.ref h₇.objs.size) >>= _) _ _ _
  refine wpAny_bind ?_
  unfold Builtin.SmallTypes.ownedTupleHandOut
  have hz₈ : IsZip (h₇.push { cls := .type "tuple", data := .seq #[x, y, u] }) z TI TO .ellipsis := Heap.get?_push_of_some _ hz₇
  refine wpAny_bind (wpAny_setField_rec hz₈ (by simp) fun h₉ hz₉ hs₉ => ?_)
  replace hz₉ : IsZip h₉ z TI TO (rawInt h₇.objs.size) := hz₉
  refine wpAny_setField_rec hz₉ (by simp) fun hA hzA hsA => ?_
  replace hzA : IsZip hA z TI TO (rawInt h₇.objs.size) := hzA
  have up : ∀ d o, d ≠ z → h₇.get? d = some o → hA.get? d = some o := fun d o e1 e => hsA.extBut _ _ e1 (hs₉.extBut _ _ e1 (Heap.get?_push_of_some _ e))
  have hT : IsTri hA h₇.objs.size x y u := hsA.extBut _ _ (Nat.ne_of_gt hzlt) (hs₉.extBut _ _ (Nat.ne_of_gt hzlt) (Heap.get?_push_size _ rfl))
  rw [hsz] at hzA hT
  refine wpAny_pure ⟨_, rfl, ?_⟩
  show Q (.ref h₇.objs.size) _
  rw [hsz]
  exact hQ hA ⟨hzA, up _ _ t1 (kall TI _ D.ti hTI), ⟨x, y, u, up _ _ (Ne.symm n1) hTO₇⟩, h1₇.at fun o e => up _ o (Ne.symm n2) e, h2₇.at fun o e => up _ o (Ne.symm n3) e, h3₇.at fun o e => up _ o (Ne.symm n4) e⟩ hT
    fun d o hd e => up d o (fun h => hd (by simp [h])) (kall d o hd e)

theorem zip3_end {z TI TO i1 i2 i3 l1 l2 l3 : Addr} {k : Nat} {xs : Array Value} {Q : Fin → Shared → Prop} (hh : A.handled = none) (D : A3 z TI TO i1 i2 i3 l1 l2 l3)
    (Z : Z3 s.heap z TI TO i1 i2 i3 l1 l2 l3 .none k) (hl1 : s.heap.IsList l1 xs) (hx : xs[k]? = none)
    (hE : ∀ h' e, (∀ c o, c ∉ [z, TO, i1, i2, i3] → s.heap.get? c = some o → h'.get? c = some o) → (∃ o, h'.get? e = some o ∧ o.cls = .type "StopIteration") → E (.ref e) { s with heap := h' }) :
    wpAny (model prog w) A (Builtin.«zip.__next__» ⟨[.ref z], []⟩) Q E s := by
  refine hide fun GG hGG => ?_
  obtain ⟨hz, hTI, ⟨a, b, c, hTO⟩, h1, h2, h3⟩ := Z
  refine hGG ?_
  clear hGG GG
  have nd := D.nd
  have d1 := D.l1
  simp only [List.nodup_cons, List.mem_cons, List.not_mem_nil, or_false, not_or, List.nodup_nil, and_true, not_false_iff] at nd d1
  show wpAny _ _ (field (.ref z) 2 >>= _) _ _ _
  refine wpAny_bind (wpAny_field hz rfl (x := .bool false) rfl ?_)
  show wpAny _ _ (field (.ref z) 3 >>= _) _ _ _
  refine wpAny_bind (wpAny_field hz rfl (x := .ref TI) rfl ?_)
  refine wpAny_bind (wpAny_seqItems hTI rfl ?_)
  show wpAny _ _ (Builtin.SmallTypes.ownedTupleIsFree (.ref z) >>= _) _ _ _
  refine wpAny_bind ?_
  unfold Builtin.SmallTypes.ownedTupleIsFree
  refine wpAny_bind (wpAny_field hz rfl (x := .none) rfl (wpAny_pure ?_))
  simp only [if_true]
  refine wpAny_bind (wpAny_rule ?_)
  refine wpAny_bind (wpAny_field hz rfl (x := .ref TO) rfl ?_)
  refine wpAny_bind (wpAny_setField_rec hz (by simp) fun h₁ hz₁ hs₁ => ?_)
  replace hz₁ : IsZip h₁ z TI TO .ellipsis := hz₁
  refine wpAny_bind ?_
  simp only [List.zipIdx_cons, List.zipIdx_nil, List.forIn_cons, List.forIn_nil]
  refine wpAny_bind (wpAny_bind (wpAny_onRaise ?_))
  show wpAny _ _ (Builtin.SmallTypes.nextOf (.ref i1) >>= _) _ _ _
  refine wpAny_bind (wpAny_nextOf_list_end hh (h1.extBut hs₁.extBut (Ne.symm nd.1.2.1)) (hl1.extBut hs₁.extBut d1.1) hx fun h₂ e hs₂ he => ?_)
  obtain ⟨oe, hoe, hce⟩ := he
  have hz₂ : IsZip h₂ z TI TO .ellipsis := hs₂ _ _ nd.1.2.1 hz₁
  have hez : e ≠ z := fun x => by subst x; rw [hz₂] at hoe; cases hoe; simp at hce
  refine wpAny_setField_rec hz₂ (by simp) fun h₃ _ hs₃ => hE h₃ e (fun d o hd x => ?_) ⟨oe, hs₃.extBut _ _ hez hoe, hce⟩
  simp only [List.mem_cons, List.not_mem_nil, or_false, not_or] at hd
  exact hs₃.extBut _ _ hd.1 (hs₂ _ _ hd.2.2.1 (hs₁.extBut _ _ hd.1 x))

theorem pyNext_zip3 {z TI TO i1 i2 i3 l1 l2 l3 : Addr} {k : Nat} {xs ys zs : Array Value} {x y u : Value} {Q : Option Value → Shared → Prop} (D : A3 z TI TO i1 i2 i3 l1 l2 l3)
    (Z : Z3 s.heap z TI TO i1 i2 i3 l1 l2 l3 .none k) (hl1 : s.heap.IsList l1 xs) (hl2 : s.heap.IsList l2 ys) (hl3 : s.heap.IsList l3 zs) (hx : xs[k]? = some x) (hy : ys[k]? = some y) (hu : zs[k]? = some u)
    (hQ : ∀ h', Z3 h' z TI TO i1 i2 i3 l1 l2 l3 (rawInt s.heap.objs.size) (k + 1) → IsTri h' s.heap.objs.size x y u → (∀ c o, c ∉ [z, TO, i1, i2, i3] → s.heap.get? c = some o → h'.get? c = some o) → Q (some (.ref s.heap.objs.size)) { s with heap := h' }) :
    wpAny (model prog w) A (pyNext (.ref z)) Q E s := by
  have hT : s.TypeIs (.ref z) "zip" := ⟨_, Z.zip, rfl⟩
  unfold pyNext
  exact wpAny_bind (wpAny_attempt (wpAny_callSpecial?_slot (name := Str.ofString "__next__") hT F.slot_zip_next
    (wpAny_call_entry F.slot_zip_next hT F.entry_zip_next (zip3_item D Z hl1 hl2 hl3 hx hy hu fun h' a1 a2 a3 => wpAny_pure (hQ h' a1 a2 a3)) (F.args_zip_next_1 _))))
theorem pyNext_zip3_end {z TI TO i1 i2 i3 l1 l2 l3 : Addr} {k : Nat} {xs : Array Value} {Q : Option Value → Shared → Prop} (hh : A.handled = none) (D : A3 z TI TO i1 i2 i3 l1 l2 l3)
    (Z : Z3 s.heap z TI TO i1 i2 i3 l1 l2 l3 .none k) (hl1 : s.heap.IsList l1 xs) (hx : xs[k]? = none)
    (hQ : ∀ h', (∀ c o, c ∉ [z, TO, i1, i2, i3] → s.heap.get? c = some o → h'.get? c = some o) → Q none { s with heap := h' }) : wpAny (model prog w) A (pyNext (.ref z)) Q E s := by
  have hT : s.TypeIs (.ref z) "zip" := ⟨_, Z.zip, rfl⟩
  unfold pyNext
  refine wpAny_bind (wpAny_attempt (wpAny_callSpecial?_slot (name := Str.ofString "__next__") hT F.slot_zip_next
    (wpAny_call_entry F.slot_zip_next hT F.entry_zip_next (zip3_end hh D Z hl1 hx fun h' e hk he => ?_) (F.args_zip_next_1 _))))
  obtain ⟨o, ho, hc⟩ := he
  refine wpAny_bind (wpAny_isInstance (T := "StopIteration") (b := true) ⟨o, ho, hc⟩ isSubtype_stop ?_)
  exact wpAny_pure (hQ _ hk)
end
end Mine

namespace Mine
open PySem PySem.Calls PyProof.Rows PySem.W

theorem typeCall_zip_3 (a b c : Value) : checkTypeCall "zip" ⟨[a, b, c], []⟩ = pure () := by kernel_rfl
theorem newCall_zip_3 (a b c : Value) : checkBuiltinCall "zip.__new__" ⟨[.type "zip", a, b, c], []⟩ = pure () := by kernel_rfl
theorem args_object_init_4 (a b c d : Value) : argsOk "object.__init__" ⟨[a, b, c, d], []⟩ := by
  unfold argsOk; rw [signature?_of (id := "object.__init__") (n := ['_', '_', 't', 'i', 'n', 'i', '_', '_']) (o := ['t', 'c', 'e', 'j', 'b', 'o']) (by kernel_rfl) F.owner_object]; kernel_rfl
noncomputable abbrev zq1 (h : Heap) (l1 : Addr) : Heap := h.push { cls := .type "list_iterator", data := .fields #[.ref l1, .int 0 0] }
noncomputable abbrev zq2 (h : Heap) (l1 l2 : Addr) : Heap := (zq1 h l1).push { cls := .type "list_iterator", data := .fields #[.ref l2, .int 0 0] }
noncomputable abbrev zq3 (h : Heap) (l1 l2 l3 : Addr) : Heap := (zq2 h l1 l2).push { cls := .type "list_iterator", data := .fields #[.ref l3, .int 0 0] }
noncomputable abbrev zq4 (h : Heap) (l1 l2 l3 : Addr) : Heap := (zq3 h l1 l2 l3).push { cls := .type "tuple", data := .seq #[.ref h.objs.size, .ref (zq1 h l1).objs.size, .ref (zq2 h l1 l2).objs.size] }
noncomputable abbrev zq5 (h : Heap) (l1 l2 l3 : Addr) : Heap := (zq4 h l1 l2 l3).push { cls := .type "tuple", data := .seq #[.none, .none, .none] }
noncomputable abbrev zq6 (h : Heap) (l1 l2 l3 : Addr) : Heap := (zq5 h l1 l2 l3).push { cls := .type "zip", data := .fields #[.none, .bool false, .bool false, .ref (zq3 h l1 l2 l3).objs.size, .ref (zq4 h l1 l2 l3).objs.size] }
set_option maxHeartbeats 4000000 in
theorem meets_zip3_new (l1 l2 l3 : Addr) (xs ys zs : Array Value) :
    Meets (Builtin.«zip.__new__» ⟨[.type "zip", .ref l1, .ref l2, .ref l3], []⟩) (fun _ R s => s.heap.IsList l1 xs ∧ s.heap.IsList l2 ys ∧ s.heap.IsList l3 zs ∧
      R (.ok (.ret (.ref (zq5 s.heap l1 l2 l3).objs.size))) { s with heap := zq6 s.heap l1 l2 l3 }) :=
  .of_wp fun prog w A R s h => by
    obtain ⟨hp, g, d, tk, os⟩ := s; obtain ⟨hl1, hl2, hl3, h⟩ := h
    have hsub := sub_zip
    have hL1 : Heap.IsList (Shared.heap ⟨hp, g, d, tk, os⟩) l1 xs := hl1
    have hL2 : Heap.IsList (Shared.heap ⟨hp.push { cls := .type "list_iterator", data := .fields #[.ref l1, .int 0 0] }, g, d, tk, os⟩) l2 ys := Heap.IsList.push hl2 _
    have hL3 : Heap.IsList (Shared.heap ⟨(hp.push { cls := .type "list_iterator", data := .fields #[.ref l1, .int 0 0] }).push { cls := .type "list_iterator", data := .fields #[.ref l2, .int 0 0] }, g, d, tk, os⟩) l3 zs := Heap.IsList.push (Heap.IsList.push hl3 _) _
    wp_walk using wpAny_pyIter_list hL1, wpAny_pyIter_list hL2, wpAny_pyIter_list hL3
    exact ⟨_, rfl, h⟩
section
variable {prog : Program} {w : World} {A : Around} {E : Value → Shared → Prop} {s : Shared}
theorem a3_new {n l1 l2 l3 : Nat} (h1 : l1 < n) (h2 : l2 < n) (h3 : l3 < n) : A3 (n + 5) (n + 3) (n + 4) n (n + 1) (n + 2) l1 l2 l3 := by
  have out : ∀ m : Nat, m ≠ n + 5 → m ≠ n + 4 → m ≠ n → m ≠ n + 1 → m ≠ n + 2 → m ∉ ([n + 5, n + 4, n, n + 1, n + 2] : List Nat) := by
    intro m e1 e2 e3 e4 e5 hm
    simp only [List.mem_cons, List.not_mem_nil, or_false] at hm
    omega
  have nd : ([n + 5, n + 4, n, n + 1, n + 2] : List Nat).Nodup := by
    simp only [List.nodup_cons, List.mem_cons, List.not_mem_nil, or_false, List.nodup_nil, and_true, not_false_iff]
    omega
  exact ⟨nd, out (n + 3) (by omega) (by omega) (by omega) (by omega) (by omega), out l1 (by omega) (by omega) (by omega) (by omega) (by omega), out l2 (by omega) (by omega) (by omega) (by omega) (by omega), out l3 (by omega) (by omega) (by omega) (by omega) (by omega)⟩
theorem call_zip_3 {l1 l2 l3 : Addr} {xs ys zs : Array Value} {Q : Value → Shared → Prop} (hl1 : s.heap.IsList l1 xs) (hl2 : s.heap.IsList l2 ys) (hl3 : s.heap.IsList l3 zs)
    (h : ∀ h' z TI TO i1 i2 i3, A3 z TI TO i1 i2 i3 l1 l2 l3 → Z3 h' z TI TO i1 i2 i3 l1 l2 l3 .none 0 → (∀ b ∈ [z, TI, TO, i1, i2, i3], s.heap.objs.size ≤ b) → (∀ c o, s.heap.get? c = some o → h'.get? c = some o) → Q (.ref z) { s with heap := h' }) :
    wpAny (model prog w) A (call (.type "zip") [.ref l1, .ref l2, .ref l3]) Q E s := by
  refine callType_new F.called_zip (by decide) (typeCall_zip_3 _ _ _) (newCall_zip_3 _ _ _) (fun obj => args_object_init_4 obj _ _ _) F.entry_zip_new
    (meets_zip3_new l1 l2 l3 xs ys zs) ⟨hl1, hl2, hl3, ?_⟩
  have z1 : (zq1 s.heap l1).objs.size = s.heap.objs.size + 1 := Heap.size_push ..
  have z2 : (zq2 s.heap l1 l2).objs.size = s.heap.objs.size + 2 := by rw [Heap.size_push, z1]
  have z3 : (zq3 s.heap l1 l2 l3).objs.size = s.heap.objs.size + 3 := by rw [Heap.size_push, z2]
  have z4 : (zq4 s.heap l1 l2 l3).objs.size = s.heap.objs.size + 4 := by rw [Heap.size_push, z3]
  have z5 : (zq5 s.heap l1 l2 l3).objs.size = s.heap.objs.size + 5 := by rw [Heap.size_push, z4]
  have g6 : (zq6 s.heap l1 l2 l3).get? (zq5 s.heap l1 l2 l3).objs.size = some _ := Heap.get?_push_size _ rfl
  have g5 : (zq6 s.heap l1 l2 l3).get? (zq4 s.heap l1 l2 l3).objs.size = some _ := Heap.get?_push_of_some _ (Heap.get?_push_size _ rfl)
  have g4 : (zq6 s.heap l1 l2 l3).get? (zq3 s.heap l1 l2 l3).objs.size = some _ := Heap.get?_push_of_some _ (Heap.get?_push_of_some _ (Heap.get?_push_size _ rfl))
  have g3 : (zq6 s.heap l1 l2 l3).get? (zq2 s.heap l1 l2).objs.size = some _ := Heap.get?_push_of_some _ (Heap.get?_push_of_some _ (Heap.get?_push_of_some _ (Heap.get?_push_size _ rfl)))
  have g2 : (zq6 s.heap l1 l2 l3).get? (zq1 s.heap l1).objs.size = some _ := Heap.get?_push_of_some _ (Heap.get?_push_of_some _ (Heap.get?_push_of_some _ (Heap.get?_push_of_some _ (Heap.get?_push_size _ rfl))))
  have g1 : (zq6 s.heap l1 l2 l3).get? s.heap.objs.size = some _ := Heap.get?_push_of_some _ (Heap.get?_push_of_some _ (Heap.get?_push_of_some _ (Heap.get?_push_of_some _ (Heap.get?_push_of_some _ (Heap.get?_push_size _ rfl)))))
  rw [z3, z4, z5] at g6
  rw [z4] at g5
  rw [z1, z2, z3] at g4
  rw [z2] at g3
  rw [z1] at g2
  have a1 : l1 < s.heap.objs.size := by obtain ⟨_, e, _⟩ := hl1; exact Heap.lt_size e
  have a2 : l2 < s.heap.objs.size := by obtain ⟨_, e, _⟩ := hl2; exact Heap.lt_size e
  have a3 : l3 < s.heap.objs.size := by obtain ⟨_, e, _⟩ := hl3; exact Heap.lt_size e
  show _ ∧ _
  rw [z5]
  refine ⟨⟨_, g6, rfl⟩, h _ (s.heap.objs.size + 5) (s.heap.objs.size + 3) (s.heap.objs.size + 4) s.heap.objs.size (s.heap.objs.size + 1) (s.heap.objs.size + 2) (a3_new a1 a2 a3)
    ⟨g6, g4, ⟨_, _, _, g5⟩, ⟨_, g1, rfl, rfl⟩, ⟨_, g2, rfl, rfl⟩, ⟨_, g3, rfl, rfl⟩⟩ (fun b hb => ?_) fun c o x => ?_⟩
  · simp only [List.mem_cons, List.not_mem_nil, or_false] at hb
    rcases hb with rfl | rfl | rfl | rfl | rfl | rfl <;> simp
  · exact Heap.get?_push_of_some _ (Heap.get?_push_of_some _ (Heap.get?_push_of_some _ (Heap.get?_push_of_some _ (Heap.get?_push_of_some _ (Heap.get?_push_of_some _ x)))))
end
end Mine

namespace Mine
open PySem PySem.W PyProof.Rows

noncomputable def NV (s : String) (v : AV) : Str × AV := (Str.ofString s, v)
noncomputable def globs : List (Str × AV) :=
  [NV "isinstance" (.bi .isinst), NV "bytes" (.bi .tBytes), NV "str" (.bi .tStr), NV "fspath" (.fn 94), NV "_get_sep" (.fn 108), NV "issubclass" (.bi .issub), NV "type" (.bi .tType), NV "range" (.bi .tRange), NV "len" (.bi .len), NV "int" (.bi .tInt),
   NV "join" (.fn 115), NV "splitroot" (.fn 122), NV "normpath" (.fn 129), NV "S_IFMT" (.fn 136), NV "filemode" (.fn 176), NV "_deduplicate_unhashable" (.fn 183), NV "_compare_args_orderless" (.fn 190), NV "_law_forth" (.fn 195), NV "_law_back" (.fn 200),
   NV "_law_turned" (.fn 205), NV "_law_chain" (.fn 212), NV "_law_single" (.fn 217), NV "enumerate" (.bi .tEnum), NV "list" (.bi .tList), NV "zip" (.bi .tZip), NV "ValueError" (.bi .tVE), NV "S_IFREG" (.int 32768), NV "_filemode_table" (.gref 169)]
noncomputable abbrev PW : Program := PySem.Challenge.pw_un0035_01
noncomputable def fnTab : List (Nat × Nat × String × Nat) :=
  [(94, 9, "os", 281), (108, 13, "cpy313.posixpath", 306), (115, 14, "cpy313.posixpath", 306), (122, 15, "cpy313.posixpath", 306), (129, 16, "cpy313.posixpath", 306), (136, 18, "cpy313.stat", 350), (176, 39, "cpy313.stat", 350),
   (183, 41, "cpy313.typing", 435), (190, 42, "cpy313.typing", 435), (195, 44, "law_un0035_01", 458), (200, 45, "law_un0035_01", 458), (205, 46, "law_un0035_01", 458), (212, 47, "law_un0035_01", 458), (217, 48, "law_un0035_01", 458)]
noncomputable def fdOf (q : Nat × Nat × String × Nat) : Option FuncData := match PW.main.body[q.2.1]? with
  | some (.FunctionDef name args body _ _ _ scope _ _ _) => some { name := name, qualname := name, params := args, body := .stmts body, scope := scope, globals := 3, closure := [], defaults := .none, kwdefaults := .none, pyModule := .str (Str.ofString q.2.2.1) q.2.2.2, code := .ref (q.1 - 1) }
  | _ => none
noncomputable def objOf (q : Nat × Nat × String × Nat) : Option Obj := match fdOf q with
  | some fd => some { cls := .type "function", data := .func fd }
  | none => none
noncomputable def codeB (h : Heap) (q : Nat × Nat × String × Nat) : Bool := match h.get? (q.1 - 1) with
  | some ⟨_, _, .fields vs, _⟩ => (match vs.toList with | _ :: .str n _ :: _ => (match fdOf q with | some fd => seq n fd.qualname | none => false) | _ => false)
  | _ => false
noncomputable def avB : AV → Value → Bool
  | .int i, .int j _ => decide (i = j)
  | .str x, .str y _ => seq x y && okL x.cps.toList
  | .gref a, .ref b => Nat.beq a b
  | _, _ => false
noncomputable def avsB : List AV → List Value → Bool
  | [], [] => true
  | a :: as, v :: vs => avB a v && avsB as vs
  | _, _ => false
noncomputable def tabB (h : Heap) (q : Nat × List AV) : Bool := match h.get? q.1 with
  | some ⟨.type t, _, .seq its _, _⟩ => t == "tuple" && avsB q.2 its.toList
  | _ => false
noncomputable def keepN : List Nat := [0, 2, 4, 6, 7, 9, 11, 13, 14, 15, 16, 18, 19, 20, 21, 22, 23, 24, 25, 26, 27, 28, 29, 30, 31, 32, 33, 34, 35, 36, 37, 38, 39, 41, 42, 44, 45, 46, 47, 48, 49]
noncomputable def tabX : List (Nat × List AV) := [(169, [.gref 144, .gref 146, .gref 148, .gref 152, .gref 154, .gref 156, .gref 160, .gref 162, .gref 164, .gref 168]), (144, [.gref 137, .gref 138, .gref 139, .gref 140, .gref 141, .gref 142, .gref 143]), (146, [.gref 145]), (148, [.gref 147]), (152, [.gref 149, .gref 150, .gref 151]), (154, [.gref 153]), (156, [.gref 155]), (160, [.gref 157, .gref 158, .gref 159]), (162, [.gref 161]), (164, [.gref 163]), (168, [.gref 165, .gref 166, .gref 167]), (137, [.int 40960, .str ⟨⟨[108]⟩⟩]), (138, [.int 49152, .str ⟨⟨[115]⟩⟩]), (139, [.int 32768, .str ⟨⟨[45]⟩⟩]), (140, [.int 24576, .str ⟨⟨[98]⟩⟩]), (141, [.int 16384, .str ⟨⟨[100]⟩⟩]), (142, [.int 8192, .str ⟨⟨[99]⟩⟩]), (143, [.int 4096, .str ⟨⟨[112]⟩⟩]), (145, [.int 256, .str ⟨⟨[114]⟩⟩]), (147, [.int 128, .str ⟨⟨[119]⟩⟩]), (149, [.int 2112, .str ⟨⟨[115]⟩⟩]), (150, [.int 2048, .str ⟨⟨[83]⟩⟩]), (151, [.int 64, .str ⟨⟨[120]⟩⟩]), (153, [.int 32, .str ⟨⟨[114]⟩⟩]), (155, [.int 16, .str ⟨⟨[119]⟩⟩]), (157, [.int 1032, .str ⟨⟨[115]⟩⟩]), (158, [.int 1024, .str ⟨⟨[83]⟩⟩]), (159, [.int 8, .str ⟨⟨[120]⟩⟩]), (161, [.int 4, .str ⟨⟨[114]⟩⟩]), (163, [.int 2, .str ⟨⟨[119]⟩⟩]), (165, [.int 513, .str ⟨⟨[116]⟩⟩]), (166, [.int 512, .str ⟨⟨[84]⟩⟩]), (167, [.int 1, .str ⟨⟨[120]⟩⟩])]

noncomputable def bodyOf : List Stmt := keepN.filterMap fun i => PW.main.body[i]?
noncomputable def viewP : Program := { PW with main := { PW.main with body := bodyOf } }
noncomputable def gB (mg : Str → Option Value) (q : Str × AV) : Bool := match mg q.1 with
  | some u => vrB q.2 u
  | none => match q.2 with | .bi _ => true | _ => false
noncomputable def obsX (s : Shared) : List (Option Obj) × Bool := (fnTab.map fun q => s.heap.get? q.1, fnTab.all (codeB s.heap) && tabX.all (tabB s.heap))
noncomputable def valX : List (Option Obj) × Bool := (fnTab.map objOf, true)
structure Fx (h : Heap) : Prop where
  fn : ∀ q ∈ fnTab, ∀ o, objOf q = some o → h.get? q.1 = some o
  code : ∀ q ∈ fnTab, codeB h q = true
  tab : ∀ q ∈ tabX, tabB h q = true
theorem fx_of {s : Shared} (e : obsX s = valX) : Fx s.heap := by
  obtain ⟨e1, e2⟩ := Prod.mk.inj e
  rw [Bool.and_eq_true] at e2
  refine ⟨fun q hq o ho => ?_, List.all_eq_true.mp e2.1, List.all_eq_true.mp e2.2⟩
  exact ((List.map_inj_left.mp e1) q hq).trans ho
theorem fx_keeps {h h' : Heap} (x : Fx h) (k : ∀ b o, h.get? b = some o → h'.get? b = some o) : Fx h' := by
  refine ⟨fun q hq o ho => k _ _ (x.fn q hq o ho), fun q hq => ?_, fun q hq => ?_⟩
  · have := x.code q hq
    unfold codeB at this ⊢
    cases e : h.get? (q.1 - 1) with
    | none => rw [e] at this; cases this
    | some o => rw [e] at this; rw [k _ _ e]; exact this
  · have := x.tab q hq
    unfold tabB at this ⊢
    cases e : h.get? q.1 with
    | none => rw [e] at this; cases this
    | some o => rw [e] at this; rw [k _ _ e]; exact this
end Mine

namespace Mine
open PySem PySem.Calls PyProof.Rows PySem.W

noncomputable def rowOf (a : Nat) : List (Nat × Nat × String × Nat) → Option (Nat × Nat × String × Nat)
  | [] => none
  | q :: r => match Nat.beq a q.1 with | true => some q | false => rowOf a r
noncomputable def fdAt (a : Addr) : Option FuncData := match rowOf a fnTab with | some q => fdOf q | none => none
noncomputable def bindAt (a : Addr) (vs : List Value) : Sem (List (Str × Value)) := match fdAt a with | some fd => bindArgs fd ⟨vs, []⟩ | none => pure []
noncomputable def zipAt (a : Addr) (vs : List Value) : List (Str × Value) := match fdAt a with | some fd => (fd.params.args.map (·.arg)).zip vs | none => []
noncomputable def starAt (a : Addr) (vs : List Value) : Sem (List (Str × Value)) := match fdAt a with
  | some fd => (match fd.params.vararg with | some v => newTuple (vs.drop (fd.params.args.map (·.arg)).length) >>= fun t => pure ((fd.params.args.map (·.arg)).zip vs ++ [(v.arg, t)]) | none => pure [])
  | none => pure []
/-- what stands fast of a def: k parameters, or k = 0 for one with a star -/
noncomputable def fdStat (fd : FuncData) (k : Nat) : Bool := !fd.scope.isCoroutine && !fd.scope.isGenerator && scopeOk fd.scope && (match k, fd.params.vararg with | 0, some _ => true | 0, none => false | _, some _ => false | k, none => Nat.beq (fd.params.args.map (·.arg)).length k)
noncomputable def fnStat (a k : Nat) : Bool := match fdAt a with | some fd => fdStat fd k | none => false
theorem bind94 (v : Value) : bindAt 94 [v] = pure (zipAt 94 [v]) := by kernel_rfl
theorem bind108 (v : Value) : bindAt 108 [v] = pure (zipAt 108 [v]) := by kernel_rfl
theorem bind122 (v : Value) : bindAt 122 [v] = pure (zipAt 122 [v]) := by kernel_rfl
theorem bind129 (v : Value) : bindAt 129 [v] = pure (zipAt 129 [v]) := by kernel_rfl
theorem bind136 (v : Value) : bindAt 136 [v] = pure (zipAt 136 [v]) := by kernel_rfl
theorem bind176 (v : Value) : bindAt 176 [v] = pure (zipAt 176 [v]) := by kernel_rfl
theorem bind183 (v : Value) : bindAt 183 [v] = pure (zipAt 183 [v]) := by kernel_rfl
theorem bind195 (v : Value) : bindAt 195 [v] = pure (zipAt 195 [v]) := by kernel_rfl
theorem bind200 (v : Value) : bindAt 200 [v] = pure (zipAt 200 [v]) := by kernel_rfl
theorem bind212 (v : Value) : bindAt 212 [v] = pure (zipAt 212 [v]) := by kernel_rfl
theorem bind217 (v : Value) : bindAt 217 [v] = pure (zipAt 217 [v]) := by kernel_rfl
theorem bind205 (u v : Value) : bindAt 205 [u, v] = pure (zipAt 205 [u, v]) := by kernel_rfl
theorem bind115 (a b c d e f g : Value) : bindAt 115 [a, b, c, d, e, f, g] = starAt 115 [a, b, c, d, e, f, g] := by kernel_rfl
theorem st94 : fnStat 94 1 = true := by kernel_rfl
theorem st108 : fnStat 108 1 = true := by kernel_rfl
theorem st122 : fnStat 122 1 = true := by kernel_rfl
theorem st129 : fnStat 129 1 = true := by kernel_rfl
theorem st136 : fnStat 136 1 = true := by kernel_rfl
theorem st176 : fnStat 176 1 = true := by kernel_rfl
theorem st183 : fnStat 183 1 = true := by kernel_rfl
theorem st195 : fnStat 195 1 = true := by kernel_rfl
theorem st200 : fnStat 200 1 = true := by kernel_rfl
theorem st212 : fnStat 212 1 = true := by kernel_rfl
theorem st217 : fnStat 217 1 = true := by kernel_rfl
theorem st205 : fnStat 205 2 = true := by kernel_rfl
theorem st115 : fnStat 115 0 = true := by kernel_rfl
theorem row_mem {a : Nat} : ∀ {l : List (Nat × Nat × String × Nat)} {q}, rowOf a l = some q → q ∈ l ∧ q.1 = a
  | [], _, h => by cases h
  | p :: r, q, h => by
    have h : (match Nat.beq a p.1 with | true => some p | false => rowOf a r) = some q := h
    cases e : Nat.beq a p.1 with
    | true => rw [e] at h; rw [← Option.some.inj h]; exact ⟨List.mem_cons_self, (Nat.eq_of_beq_eq_true e).symm⟩
    | false => rw [e] at h; have := row_mem h; exact ⟨List.mem_cons_of_mem _ this.1, this.2⟩
theorem fdOf_parts {q : Nat × Nat × String × Nat} {fd : FuncData} (h : fdOf q = some fd) : fd.code = .ref (q.1 - 1) ∧ fd.closure = [] ∧ fd.globals = 3 ∧ fd.builtins = 0 := by
  unfold fdOf at h
  split at h
  · cases h; exact ⟨rfl, rfl, rfl, rfl⟩
  · cases h
theorem fn_base {h₀ : Heap} (F : Fx h₀) {a k : Nat} {fd : FuncData} (h : fdAt a = some fd) (hs : fnStat a k = true)
    (binds : fd.params.vararg = none → ∀ (vs : List Value) (s : Shared), vs.length = (fd.params.args.map (·.arg)).length → BindsTo s fd ⟨vs, []⟩ ((fd.params.args.map (·.arg)).zip vs))
    (bindv : ∀ v, fd.params.vararg = some v → ∀ (vs : List Value) (s : Shared) (M : Model) (A : Around) (E : Value → Shared → Prop) (Q : List (Str × Value) → Shared → Prop), vs.length = 7 →
      wpAny M A (newTuple (vs.drop (fd.params.args.map (·.arg)).length)) (fun t s' => Q ((fd.params.args.map (·.arg)).zip vs ++ [(v.arg, t)]) s') E s → wpAny M A (bindArgs fd ⟨vs, []⟩) Q E s) : FnOk h₀ a fd := by
  have h0 := h
  unfold fdAt at h
  split at h
  · rename_i q hq
    obtain ⟨hm, rfl⟩ := row_mem hq
    obtain ⟨p1, p2, p3, p4⟩ := fdOf_parts h
    have hobj : objOf q = some { cls := .type "function", data := .func fd } := by unfold objOf; rw [h]
    have hcode : h₀.CodeRec fd.code fd.qualname := by
      have := F.code q hm
      unfold codeB at this
      split at this
      · rename_i vs _ e
        split at this
        · rename_i x n t r hvs
          rw [h] at this
          have hn : n = fd.qualname := seq_iff.mp this
          refine ⟨q.1 - 1, _, vs, t, p1, e, rfl, ?_⟩
          have : vs[1]? = vs.toList[1]? := by simp
          rw [this, hvs, ← hn]; rfl
        · cases this
      · cases this
    unfold fnStat at hs
    rw [h0] at hs
    unfold fdStat at hs
    simp only [Bool.and_eq_true, Bool.not_eq_true'] at hs
    obtain ⟨⟨⟨s1, s2⟩, s3⟩, _⟩ := hs
    unfold scopeOk at s3
    split at s3
    · rename_i hk
      exact ⟨⟨_, F.fn q hm _ hobj, rfl⟩, hcode, p2, p3, p4, s1, s2, hk, s3, binds, bindv⟩
    · cases s3
  · cases h
end Mine

namespace Mine
open PySem PySem.Calls PyProof.Rows PySem.W
theorem stat_len {a k : Nat} {fd : FuncData} (h : fdAt a = some fd) (hs : fnStat a (k + 1) = true) : (fd.params.args.map (·.arg)).length = k + 1 ∧ fd.params.vararg = none := by
  unfold fnStat at hs
  rw [h] at hs
  unfold fdStat at hs
  simp only [Bool.and_eq_true] at hs
  have := hs.2
  cases hv : fd.params.vararg with
  | some v => rw [hv] at this; cases this
  | none => rw [hv] at this; exact ⟨Nat.eq_of_beq_eq_true this, rfl⟩
theorem stat_var {a : Nat} {fd : FuncData} (h : fdAt a = some fd) (hs : fnStat a 0 = true) : fd.params.vararg ≠ none := by
  unfold fnStat at hs
  rw [h] at hs
  unfold fdStat at hs
  simp only [Bool.and_eq_true] at hs
  have := hs.2
  intro hv
  rw [hv] at this; cases this
theorem len_succ {α : Type} {l : List α} {n : Nat} (h : l.length = n + 1) : ∃ a r, l = a :: r ∧ r.length = n := by
  cases l with
  | nil => cases h
  | cons a r => exact ⟨a, r, rfl, Nat.succ.inj h⟩
theorem ok_one {h₀ : Heap} (F : Fx h₀) {a : Nat} {fd : FuncData} (h : fdAt a = some fd) (hs : fnStat a 1 = true) (hb : ∀ v, bindAt a [v] = pure (zipAt a [v])) : FnOk h₀ a fd := by
  obtain ⟨hl1, hv1⟩ := stat_len h hs
  refine fn_base F h hs ?_ ?_
  · intro _ vs s hl
    rw [hl1] at hl
    refine hide fun GG hGG => ?_
    obtain ⟨v, l1, e1, z1⟩ := len_succ hl
    refine hGG ?_
    clear hGG GG
    rw [List.length_eq_zero_iff.mp z1] at e1
    subst e1
    have := hb v
    unfold bindAt zipAt at this
    rw [h] at this
    exact BindsTo.of_eq this
  · intro v hv
    rw [hv1] at hv; cases hv
theorem ok_two {h₀ : Heap} (F : Fx h₀) {a : Nat} {fd : FuncData} (h : fdAt a = some fd) (hs : fnStat a 2 = true) (hb : ∀ u v, bindAt a [u, v] = pure (zipAt a [u, v])) : FnOk h₀ a fd := by
  obtain ⟨hl1, hv1⟩ := stat_len h hs
  refine fn_base F h hs ?_ ?_
  · intro _ vs s hl
    rw [hl1] at hl
    refine hide fun GG hGG => ?_
    obtain ⟨u, l1, e1, z1⟩ := len_succ hl
    obtain ⟨v, l2, e2, z2⟩ := len_succ z1
    refine hGG ?_
    clear hGG GG
    rw [e2, List.length_eq_zero_iff.mp z2] at e1
    subst e1
    have := hb u v
    unfold bindAt zipAt at this
    rw [h] at this
    exact BindsTo.of_eq this
  · intro v hv
    rw [hv1] at hv; cases hv
theorem ok_star {h₀ : Heap} (F : Fx h₀) {a : Nat} {fd : FuncData} (h : fdAt a = some fd) (hs : fnStat a 0 = true) (hb : ∀ v0 v1 v2 v3 v4 v5 v6, bindAt a [v0, v1, v2, v3, v4, v5, v6] = starAt a [v0, v1, v2, v3, v4, v5, v6]) : FnOk h₀ a fd := by
  refine fn_base F h hs ?_ ?_
  · intro hv
    exact absurd hv (stat_var h hs)
  · intro v hv vs s M A E Q hl hw
    have e : bindArgs fd ⟨vs, []⟩ = newTuple (vs.drop (fd.params.args.map (·.arg)).length) >>= fun t => pure ((fd.params.args.map (·.arg)).zip vs ++ [(v.arg, t)]) := by
      refine hide fun GG hGG => ?_
      obtain ⟨v0, l1, e0, z0⟩ := len_succ hl
      obtain ⟨v1, l2, e1, z1⟩ := len_succ z0
      obtain ⟨v2, l3, e2, z2⟩ := len_succ z1
      obtain ⟨v3, l4, e3, z3⟩ := len_succ z2
      obtain ⟨v4, l5, e4, z4⟩ := len_succ z3
      obtain ⟨v5, l6, e5, z5⟩ := len_succ z4
      obtain ⟨v6, l7, e6, z6⟩ := len_succ z5
      refine hGG ?_
      clear hGG GG
      rw [e1, e2, e3, e4, e5, e6, List.length_eq_zero_iff.mp z6] at e0
      subst e0
      have := hb v0 v1 v2 v3 v4 v5 v6
      unfold bindAt starAt at this
      rw [h] at this
      simp only [hv] at this
      exact this
    · rw [e]
      exact wpAny_bind (wpAny_mono hw (fun t s' q => wpAny_pure q) fun _ _ e => e)

noncomputable def lkN {α : Type} (a : Nat) : List (Nat × Option α) → Option α
  | [] => none
  | (b, v) :: r => match Nat.beq a b with | true => v | false => lkN a r
noncomputable def fnL : List (Nat × Option FuncData) := [(94, fdAt 94), (108, fdAt 108), (115, fdAt 115), (122, fdAt 122), (129, fdAt 129), (136, fdAt 136), (176, fdAt 176), (183, fdAt 183), (195, fdAt 195), (200, fdAt 200), (205, fdAt 205), (212, fdAt 212), (217, fdAt 217)]
theorem lkN_cons {α : Type} {a b : Nat} {v : Option α} {r : List (Nat × Option α)} {x : α} {P : Nat → α → Prop} (h : lkN a ((b, v) :: r) = some x) (k : ∀ x, v = some x → P b x) (j : lkN a r = some x → P a x) : P a x := by
  have h : (match Nat.beq a b with | true => v | false => lkN a r) = some x := h
  cases e : Nat.beq a b with
  | true => rw [e] at h; rw [Nat.eq_of_beq_eq_true e]; exact k x h
  | false => rw [e] at h; exact j h
theorem fns_ok {h₀ : Heap} (F : Fx h₀) : ∀ a fd, lkN a fnL = some fd → FnOk h₀ a fd := by
  intro a fd h
  refine lkN_cons (P := FnOk h₀) h (fun fd h => ok_one F h st94 bind94) fun h => ?_
  refine lkN_cons (P := FnOk h₀) h (fun fd h => ok_one F h st108 bind108) fun h => ?_
  refine lkN_cons (P := FnOk h₀) h (fun fd h => ok_star F h st115 bind115) fun h => ?_
  refine lkN_cons (P := FnOk h₀) h (fun fd h => ok_one F h st122 bind122) fun h => ?_
  refine lkN_cons (P := FnOk h₀) h (fun fd h => ok_one F h st129 bind129) fun h => ?_
  refine lkN_cons (P := FnOk h₀) h (fun fd h => ok_one F h st136 bind136) fun h => ?_
  refine lkN_cons (P := FnOk h₀) h (fun fd h => ok_one F h st176 bind176) fun h => ?_
  refine lkN_cons (P := FnOk h₀) h (fun fd h => ok_one F h st183 bind183) fun h => ?_
  refine lkN_cons (P := FnOk h₀) h (fun fd h => ok_one F h st195 bind195) fun h => ?_
  refine lkN_cons (P := FnOk h₀) h (fun fd h => ok_one F h st200 bind200) fun h => ?_
  refine lkN_cons (P := FnOk h₀) h (fun fd h => ok_two F h st205 bind205) fun h => ?_
  refine lkN_cons (P := FnOk h₀) h (fun fd h => ok_one F h st212 bind212) fun h => ?_
  refine lkN_cons (P := FnOk h₀) h (fun fd h => ok_one F h st217 bind217) fun h => ?_
  exact ooNo h

theorem avB_sound {a : AV} {v : Value} (h : avB a v = true) : VR [] a v := by
  cases a with
  | int i => cases v with
    | int j t => have := of_decide_eq_true h; subst this; exact ⟨_, rfl⟩
    | _ => exact ff h
  | str x => cases v with
    | str y t =>
      have h : (seq x y && okL x.cps.toList) = true := h
      rw [Bool.and_eq_true] at h
      have := seq_iff.mp h.1; subst this
      exact ⟨okL_le h.2, _, rfl⟩
    | _ => exact ff h
  | gref b => cases v with
    | ref c => have := Nat.eq_of_beq_eq_true h; subst this; rfl
    | _ => exact ff h
  | _ => cases v <;> exact ff h
theorem avsB_sound : ∀ {as : List AV} {vs : List Value}, avsB as vs = true → VRs [] as vs
  | [], [], _ => trivial
  | a :: as, v :: vs, h => by
    have h : (avB a v && avsB as vs) = true := h
    rw [Bool.and_eq_true] at h
    exact ⟨avB_sound h.1, avsB_sound h.2⟩
  | [], _ :: _, h => by cases h
  | _ :: _, [], h => by cases h
noncomputable def lkT (a : Nat) : List (Nat × List AV) → Option (List AV)
  | [] => none
  | (b, v) :: r => match Nat.beq a b with | true => some v | false => lkT a r
theorem lkT_mem {a : Nat} : ∀ {l : List (Nat × List AV)} {xs}, lkT a l = some xs → (a, xs) ∈ l
  | [], _, h => by cases h
  | (b, v) :: r, xs, h => by
    have h : (match Nat.beq a b with | true => some v | false => lkT a r) = some xs := h
    cases e : Nat.beq a b with
    | true =>
      rw [e] at h
      rw [Nat.eq_of_beq_eq_true e, ← Option.some.inj h]
      exact List.mem_cons_self
    | false => rw [e] at h; exact List.mem_cons_of_mem _ (lkT_mem h)
theorem tabX_plain : tabX.all (fun q => !q.2.any isObj && okL q.2) = true := by decide +kernel
theorem tabs_ok {h₀ : Heap} (F : Fx h₀) : ∀ a xs, lkT a tabX = some xs → xs.length ≤ lim ∧ xs.any isObj = false ∧ ∃ vs : List Value, h₀.IsTuple a vs.toArray ∧ VRs [] xs vs := by
  intro a xs h
  have hm := lkT_mem h
  have hp := List.all_eq_true.mp tabX_plain _ hm
  rw [Bool.and_eq_true] at hp
  have hb := F.tab _ hm
  unfold tabB at hb
  split at hb
  · rename_i t _ its _ _ e
    rw [Bool.and_eq_true] at hb
    have ht : t = "tuple" := by simpa using hb.1
    subst ht
    exact ⟨okL_le hp.2, by simpa using hp.1, its.toList, ⟨_, e, rfl, _, by simp only [Array.toArray_toList]; rfl⟩, avsB_sound hb.2⟩
  · cases hb

/-- the globals, as the walk's facts have them -/
noncomputable def bootB (q : Str × AV) : Bool := match q.2 with
  | .bi k => (match bootBuiltins q.1 with | some u => u == k.val | none => false) && !(seq q.1 nameS)
  | _ => true
theorem boot_ok : globs.all bootB = true := by decide +kernel
theorem lkp_mem {α : Type} {x : Str} : ∀ {l : List (Str × α)} {v : α}, lkp x l = some v → (x, v) ∈ l
  | [], _, h => by cases h
  | (y, u) :: r, v, h => by
    have h : (match seq x y with | true => some u | false => lkp x r) = some v := h
    cases e : seq x y with
    | true =>
      rw [e] at h
      rw [seq_iff.mp e, ← Option.some.inj h]
      exact List.mem_cons_self
    | false => rw [e] at h; exact List.mem_cons_of_mem _ (lkp_mem h)
theorem globs_at {h₀ : Heap} {p : Program} {loose : List Str} {mg mb : Str → Option Value} (T : TopRead p loose mg mb h₀) (hg : globs.all (gB mg) = true) : ∀ x v, lkp x globs = some v → ∃ u, VR [] v u ∧ ∀ (M : Model) (A : Around) (env : Env) (E : Value → Shared → Prop) (Q : Value → Shared → Prop) (s : Shared),
    env.globals = mainGlobals → env.builtins = builtinsNs → (∀ b o, h₀.get? b = some o → s.heap.get? b = some o) → Q u s → wpAny M A (loadGlobal env x) Q E s := by
  intro x v h
  have hm := lkp_mem h
  have hq := List.all_eq_true.mp hg _ hm
  have hb := List.all_eq_true.mp boot_ok _ hm
  have hq : (match mg x with | some u => vrB v u | none => match (generalizing := false) v with | .bi _ => true | _ => false) = true := hq
  cases e : mg x with
  | some u =>
    rw [e] at hq
    refine ⟨u, vrB_sound hq, fun M A env E Q s hgl hbn hk hQ => ?_⟩
    exact loadGlobal_global (by rw [hgl]; exact T.g.keeps hk) e hQ
  | none =>
    rw [e] at hq
    cases v with
    | bi k =>
      have hb : ((match bootBuiltins x with | some u => u == k.val | none => false) && !(seq x nameS)) = true := hb
      rw [Bool.and_eq_true, Bool.not_eq_true'] at hb
      obtain ⟨hb1, hb2⟩ := hb
      cases hu : bootBuiltins x with
      | some u =>
        rw [hu] at hb1
        have huk : u = k.val := eq_of_beq hb1
        subst huk
        have hne : x ≠ "__name__" := fun q => by
          have := seq_iff.mpr q
          rw [show seq x nameS = true from this] at hb2; cases hb2
        refine ⟨_, rfl, fun M A env E Q s hgl hbn hk hQ => ?_⟩
        exact loadGlobal_builtin (by rw [hgl]; exact T.g.keeps hk) e (by rw [hbn]; exact T.b.keeps hk) ((T.builtins x hne).trans hu) hQ
      | none => rw [hu] at hb1; exact ff hb1
    | _ => exact ff hq

noncomputable def cx0 : Cx := ⟨globs, fun a => lkN a fnL, fun _ _ => none, fun _ _ => none, fun a => lkT a tabX, 0⟩
theorem gd0 {prog : Program} {w : World} {h₀ : Heap} {p : Program} {loose : List Str} {mg mb : Str → Option Value} (T : TopRead p loose mg mb h₀) (hg : globs.all (gB mg) = true) (F : Fx h₀) : Gd prog w cx0 h₀ :=
  ⟨globs_at T hg, T.nolimit, fns_ok F, tabs_ok F, fun _ _ _ h => (by cases h), fun _ _ _ h => (by cases h)⟩
end Mine

namespace Mine
open PySem PySem.Calls PyProof.Rows PySem.W

section
variable {prog : Program} {w : World} {cx : Cx} {h₀ : Heap}
theorem st_nil (s : Shared) : St (fun b => s.heap.get? b) [] [] s :=
  ⟨fun _ _ e => e, rfl, List.nodup_nil, fun i a o e => by simp at e, fun i a o e => by simp at e⟩
/-- a run of the evaluator is a contract -/
theorem run_orc (G : Gd prog w cx h₀) {k : Nat} {a : Addr} {vs : List AV} {r : AV} {H' : Hp} (h : (evN cx k).c [] a vs = some (r, H')) (hr : isObj r = false) :
    OrcOk prog w h₀ (cx.r + k) a vs fun x s s' => ∃ h' t, s' = { s with heap := h', toks := t } ∧ VR [] r x ∧ ∀ b o, s.heap.get? b = some o → h'.get? b = some o := by
  intro ws A s R hv hA hk hR
  refine (evN_sound G k).c a vs ws (fun b => s.heap.get? b) [] [] s A r H' h hk hv (st_nil s) hA R fun x s' q => hR x s' ?_
  refine hide fun GG hGG => ?_
  obtain ⟨⟨h', t, rfl⟩, ρ', p, hx, S⟩ := q
  refine hGG ?_
  clear hGG GG
  exact ⟨h', t, rfl, hx.imm hr, fun b o e => S.kept b o e⟩
theorem run_list (G : Gd prog w cx h₀) {k : Nat} {a : Addr} {vs xs : List AV} {H' : Hp} (h : (evN cx k).c [] a vs = some (.obj 0, .list xs :: H')) (hx : xs.any isObj = false) :
    OrcOk prog w h₀ (cx.r + k) a vs fun x s s' => ∃ h' t d ys, s' = { s with heap := h', toks := t } ∧ x = .ref d ∧ s.heap.get? d = none ∧ h'.PlainList d (List.toArray ys) ∧ VRs [] xs ys ∧ ∀ b o, s.heap.get? b = some o → h'.get? b = some o := by
  intro ws A s R hv hA hk hR
  refine (evN_sound G k).c a vs ws (fun b => s.heap.get? b) [] [] s A (.obj 0) (.list xs :: H') h hk hv (st_nil s) hA R fun x s' q => hR x s' ?_
  refine hide fun GG hGG => ?_
  obtain ⟨⟨h', t, rfl⟩, ρ', p, ⟨d, hd, rfl⟩, S⟩ := q
  obtain ⟨d', hd', hz, ys, hl, hy⟩ := S.addr (k := 0) (o := .list xs) rfl
  refine hGG ?_
  clear hGG GG
  rw [hd] at hd'; cases hd'
  exact ⟨h', t, d, ys, rfl, rfl, S.own 0 d (.list xs) hd rfl rfl, hl, hy.imm hx, fun b o e => S.kept b o e⟩
end
end Mine

namespace Mine
open PySem

/-! the plain meaning of a row: mode m, its six letters -/
noncomputable def bitOn (m p : Nat) : Bool := Nat.testBit m (5 - p)
noncomputable def letter : Nat → Nat
  | 0 => 114 | 1 => 119 | 2 => 120 | 3 => 114 | 4 => 119 | _ => 120
noncomputable def rowC (m : Nat) : List Nat := [0, 1, 2, 3, 4, 5].map fun p => match bitOn m p with | true => letter p | false => 45
noncomputable def rowS (m : Nat) : Str := ⟨⟨rowC m⟩⟩
noncomputable def strAns (r : Option (AV × Hp)) : Option (List Nat) := match r with
  | some (.str x, []) => some x.cps.toList
  | _ => none
noncomputable def eqO : Option (List Nat) → Option (List Nat) → Bool
  | some a, some b => nbeq a b
  | _, _ => false

noncomputable def seg (l : List Nat) (a b : Nat) : List Nat := (l.drop a).take (b - a)
noncomputable def evenD (l : List Nat) : Bool := Nat.beq (2 * countOf 45 l) l.length
noncomputable def singleB (m p : Nat) : Bool := match bitOn m p with
  | false => !((List.range p).any fun f => evenD (seg (rowC m) f (p + 1)))
  | true => !((List.range (7 - (p + 2))).any fun k => evenD (seg (rowC m) p (p + 2 + k)))
noncomputable def singleP (m : Nat) : List Nat := [0, 1, 2, 3, 4, 5].filter (singleB m)
noncomputable def downP (m : Nat) : List Nat := (singleP m).filter fun p => !(bitOn m p)
noncomputable def upP (m : Nat) : List Nat := (singleP m).filter (bitOn m)
noncomputable def strP (p : Nat) : Str := ⟨⟨[48 + p]⟩⟩
noncomputable def dots : Str := ⟨⟨[46, 46]⟩⟩
noncomputable def orDot (l : List Nat) : List Nat := match l with | [] => [46] | _ => l
noncomputable def forthP (m : Nat) : List Nat := orDot (joinL [47] ((downP m).map (fun _ => dots) ++ (upP m).map strP))
noncomputable def backP (m : Nat) : List Nat := orDot (joinL [47] ((upP m).map (fun _ => dots) ++ (downP m).reverse.map strP))
noncomputable def m64 : List Nat := List.range 64
theorem all64 {f : Nat → Bool} (h0 : (List.range' 0 16).all f = true) (h1 : (List.range' 16 16).all f = true) (h2 : (List.range' 32 16).all f = true) (h3 : (List.range' 48 16).all f = true) : m64.all f = true := by
  have e : m64 = List.range' 0 16 ++ (List.range' 16 16 ++ (List.range' 32 16 ++ List.range' 48 16)) := by decide +kernel
  rw [e, List.all_append, List.all_append, List.all_append, h0, h1, h2, h3]
  rfl
theorem forth64_a : ((List.range' 0 16).all (fun m => eqO (strAns ((evN cx0 60).c [] 195 [.str (rowS m)])) (some (forthP m)))) = true := by kernel_rfl
theorem forth64_b : ((List.range' 16 16).all (fun m => eqO (strAns ((evN cx0 60).c [] 195 [.str (rowS m)])) (some (forthP m)))) = true := by kernel_rfl
theorem forth64_c : ((List.range' 32 16).all (fun m => eqO (strAns ((evN cx0 60).c [] 195 [.str (rowS m)])) (some (forthP m)))) = true := by kernel_rfl
theorem forth64_d : ((List.range' 48 16).all (fun m => eqO (strAns ((evN cx0 60).c [] 195 [.str (rowS m)])) (some (forthP m)))) = true := by kernel_rfl
theorem forth64 : (m64.all fun m => eqO (strAns ((evN cx0 60).c [] 195 [.str (rowS m)])) (some (forthP m))) = true := all64 forth64_a forth64_b forth64_c forth64_d
theorem back64_a : ((List.range' 0 16).all (fun m => eqO (strAns ((evN cx0 60).c [] 200 [.str (rowS m)])) (some (backP m)))) = true := by kernel_rfl
theorem back64_b : ((List.range' 16 16).all (fun m => eqO (strAns ((evN cx0 60).c [] 200 [.str (rowS m)])) (some (backP m)))) = true := by kernel_rfl
theorem back64_c : ((List.range' 32 16).all (fun m => eqO (strAns ((evN cx0 60).c [] 200 [.str (rowS m)])) (some (backP m)))) = true := by kernel_rfl
theorem back64_d : ((List.range' 48 16).all (fun m => eqO (strAns ((evN cx0 60).c [] 200 [.str (rowS m)])) (some (backP m)))) = true := by kernel_rfl
theorem back64 : (m64.all fun m => eqO (strAns ((evN cx0 60).c [] 200 [.str (rowS m)])) (some (backP m))) = true := all64 back64_a back64_b back64_c back64_d
end Mine

namespace Mine
open PySem
/-- filemode's answer: four dashes ahead of the row -/
theorem mode64 : (m64.all fun m => eqO (strAns ((evN cx0 60).c [] 176 [.int (.ofNat (32768 + m))])) (some ([45, 45, 45, 45] ++ rowC m))) = true := by kernel_rfl
end Mine

namespace Mine
open PySem
noncomputable def flip (m p : Nat) : Nat := m ^^^ (1 <<< (5 - p))
noncomputable def lessP (m : Nat) : Option Nat := match upP m with | p :: _ => some (flip m p) | [] => none
noncomputable def moreP (m : Nat) : Option Nat := match (downP m).reverse with | p :: _ => some (flip m p) | [] => none
noncomputable def rowO : Option Nat → List Nat
  | some m => rowC m
  | none => []
theorem turnF : (m64.all fun m => eqO (strAns ((evN cx0 60).c [] 205 [.str (rowS m), .str ⟨⟨forthP m⟩⟩])) (some (rowO (lessP m)))) = true := by kernel_rfl
theorem turnB : (m64.all fun m => eqO (strAns ((evN cx0 60).c [] 205 [.str (rowS m), .str ⟨⟨backP m⟩⟩])) (some (rowO (moreP m)))) = true := by kernel_rfl
end Mine

namespace Mine
open PySem
/-! the rows' tables (printed by gen_tables.py) -/
noncomputable def forthT : List (List Nat) := [[46, 46, 47, 46, 46, 47, 46, 46, 47, 46, 46, 47, 46, 46, 47, 46, 46], [46, 46, 47, 46, 46, 47, 46, 46, 47, 46, 46, 47, 46, 46, 47, 53], [46, 46, 47, 46, 46, 47, 46, 46, 47, 46, 46], [46, 46, 47, 46, 46, 47, 46, 46, 47, 46, 46, 47, 52, 47, 53], [46, 46, 47, 46, 46, 47, 46, 46, 47, 46, 46], [46, 46, 47, 46, 46, 47, 46, 46, 47, 53], [46, 46, 47, 46, 46, 47, 46, 46, 47, 51], [46, 46, 47, 46, 46, 47, 46, 46, 47, 51, 47, 52, 47, 53], [46, 46, 47, 46, 46, 47, 46, 46, 47, 46, 46], [46, 46, 47, 46, 46, 47, 46, 46, 47, 53], [46, 46, 47, 46, 46], [46, 46, 47, 46, 46, 47, 52, 47, 53], [46, 46, 47, 46, 46], [46, 46, 47, 46, 46, 47, 50, 47, 53], [46, 46, 47, 46, 46, 47, 50, 47, 51], [46, 46, 47, 46, 46, 47, 50, 47, 51, 47, 52, 47, 53], [46, 46, 47, 46, 46, 47, 46, 46, 47, 46, 46], [46, 46, 47, 46, 46, 47, 46, 46, 47, 53], [46, 46, 47, 46, 46], [46, 46, 47, 46, 46, 47, 52, 47, 53], [46, 46, 47, 46, 46], [46, 46, 47, 53], [46, 46, 47, 51], [46, 46, 47, 51, 47, 52, 47, 53], [46, 46, 47, 46, 46], [46, 46, 47, 53], [46, 46, 47, 49], [46, 46, 47, 49, 47, 52, 47, 53], [46, 46, 47, 49], [46, 46, 47, 49, 47, 50, 47, 53], [46, 46, 47, 49, 47, 50, 47, 51], [46, 46, 47, 49, 47, 50, 47, 51, 47, 52, 47, 53], [46, 46, 47, 46, 46, 47, 46, 46, 47, 46, 46], [46, 46, 47, 46, 46, 47, 46, 46, 47, 53], [46, 46, 47, 46, 46], [46, 46, 47, 46, 46, 47, 52, 47, 53], [46, 46, 47, 46, 46], [46, 46, 47, 53], [46, 46, 47, 51], [46, 46, 47, 51, 47, 52, 47, 53], [46, 46, 47, 46, 46], [46, 46, 47, 53], [46], [52, 47, 53], [46], [50, 47, 53], [50, 47, 51], [50, 47, 51, 47, 52, 47, 53], [46, 46, 47, 46, 46], [46, 46, 47, 53], [46], [52, 47, 53], [46], [48, 47, 53], [48, 47, 51], [48, 47, 51, 47, 52, 47, 53], [46], [48, 47, 53], [48, 47, 49], [48, 47, 49, 47, 52, 47, 53], [48, 47, 49], [48, 47, 49, 47, 50, 47, 53], [48, 47, 49, 47, 50, 47, 51], [48, 47, 49, 47, 50, 47, 51, 47, 52, 47, 53]]
noncomputable def backT : List (List Nat) := [[53, 47, 52, 47, 51, 47, 50, 47, 49, 47, 48], [46, 46, 47, 52, 47, 51, 47, 50, 47, 49, 47, 48], [51, 47, 50, 47, 49, 47, 48], [46, 46, 47, 46, 46, 47, 51, 47, 50, 47, 49, 47, 48], [53, 47, 50, 47, 49, 47, 48], [46, 46, 47, 50, 47, 49, 47, 48], [46, 46, 47, 50, 47, 49, 47, 48], [46, 46, 47, 46, 46, 47, 46, 46, 47, 50, 47, 49, 47, 48], [53, 47, 52, 47, 49, 47, 48], [46, 46, 47, 52, 47, 49, 47, 48], [49, 47, 48], [46, 46, 47, 46, 46, 47, 49, 47, 48], [49, 47, 48], [46, 46, 47, 46, 46, 47, 49, 47, 48], [46, 46, 47, 46, 46, 47, 49, 47, 48], [46, 46, 47, 46, 46, 47, 46, 46, 47, 46, 46, 47, 49, 47, 48], [53, 47, 52, 47, 51, 47, 48], [46, 46, 47, 52, 47, 51, 47, 48], [51, 47, 48], [46, 46, 47, 46, 46, 47, 51, 47, 48], [53, 47, 48], [46, 46, 47, 48], [46, 46, 47, 48], [46, 46, 47, 46, 46, 47, 46, 46, 47, 48], [53, 47, 48], [46, 46, 47, 48], [46, 46, 47, 48], [46, 46, 47, 46, 46, 47, 46, 46, 47, 48], [46, 46, 47, 48], [46, 46, 47, 46, 46, 47, 46, 46, 47, 48], [46, 46, 47, 46, 46, 47, 46, 46, 47, 48], [46, 46, 47, 46, 46, 47, 46, 46, 47, 46, 46, 47, 46, 46, 47, 48], [53, 47, 52, 47, 51, 47, 50], [46, 46, 47, 52, 47, 51, 47, 50], [51, 47, 50], [46, 46, 47, 46, 46, 47, 51, 47, 50], [53, 47, 50], [46, 46, 47, 50], [46, 46, 47, 50], [46, 46, 47, 46, 46, 47, 46, 46, 47, 50], [53, 47, 52], [46, 46, 47, 52], [46], [46, 46, 47, 46, 46], [46], [46, 46, 47, 46, 46], [46, 46, 47, 46, 46], [46, 46, 47, 46, 46, 47, 46, 46, 47, 46, 46], [53, 47, 52], [46, 46, 47, 52], [46], [46, 46, 47, 46, 46], [46], [46, 46, 47, 46, 46], [46, 46, 47, 46, 46], [46, 46, 47, 46, 46, 47, 46, 46, 47, 46, 46], [46], [46, 46, 47, 46, 46], [46, 46, 47, 46, 46], [46, 46, 47, 46, 46, 47, 46, 46, 47, 46, 46], [46, 46, 47, 46, 46], [46, 46, 47, 46, 46, 47, 46, 46, 47, 46, 46], [46, 46, 47, 46, 46, 47, 46, 46, 47, 46, 46], [46, 46, 47, 46, 46, 47, 46, 46, 47, 46, 46, 47, 46, 46, 47, 46, 46]]
noncomputable def singleT : List (List Nat) := [[0, 1, 2, 3, 4, 5], [0, 1, 2, 3, 4, 5], [0, 1, 2, 3], [0, 1, 2, 3, 4, 5], [0, 1, 2, 5], [0, 1, 2, 5], [0, 1, 2, 3], [0, 1, 2, 3, 4, 5], [0, 1, 4, 5], [0, 1, 4, 5], [0, 1], [0, 1, 4, 5], [0, 1], [0, 1, 2, 5], [0, 1, 2, 3], [0, 1, 2, 3, 4, 5], [0, 3, 4, 5], [0, 3, 4, 5], [0, 3], [0, 3, 4, 5], [0, 5], [0, 5], [0, 3], [0, 3, 4, 5], [0, 5], [0, 5], [0, 1], [0, 1, 4, 5], [0, 1], [0, 1, 2, 5], [0, 1, 2, 3], [0, 1, 2, 3, 4, 5], [2, 3, 4, 5], [2, 3, 4, 5], [2, 3], [2, 3, 4, 5], [2, 5], [2, 5], [2, 3], [2, 3, 4, 5], [4, 5], [4, 5], [], [4, 5], [], [2, 5], [2, 3], [2, 3, 4, 5], [4, 5], [4, 5], [], [4, 5], [], [0, 5], [0, 3], [0, 3, 4, 5], [], [0, 5], [0, 1], [0, 1, 4, 5], [0, 1], [0, 1, 2, 5], [0, 1, 2, 3], [0, 1, 2, 3, 4, 5]]
noncomputable def lessT : List (Option Nat) := [none, some 0, none, some 1, none, some 4, some 2, some 3, none, some 8, none, some 9, none, some 5, some 6, some 7, none, some 16, none, some 17, none, some 20, some 18, some 19, none, some 24, some 10, some 11, some 12, some 13, some 14, some 15, none, some 32, none, some 33, none, some 36, some 34, some 35, none, some 40, none, some 41, none, some 37, some 38, some 39, none, some 48, none, some 49, none, some 21, some 22, some 23, none, some 25, some 26, some 27, some 28, some 29, some 30, some 31]
noncomputable def moreT : List (Option Nat) := [some 1, some 3, some 6, some 7, some 5, some 13, some 14, some 15, some 9, some 11, some 26, some 27, some 28, some 29, some 30, some 31, some 17, some 19, some 22, some 23, some 21, some 53, some 54, some 55, some 25, some 57, some 58, some 59, some 60, some 61, some 62, some 63, some 33, some 35, some 38, some 39, some 37, some 45, some 46, some 47, some 41, some 43, none, none, none, none, none, none, some 49, some 51, none, none, none, none, none, none, none, none, none, none, none, none, none, none]
noncomputable def chainT : List (List Nat) := [[0, 1, 3, 7, 15, 31, 63], [0, 1, 3, 7, 15, 31, 63], [2, 6, 14, 30, 62], [0, 1, 3, 7, 15, 31, 63], [4, 5, 13, 29, 61], [4, 5, 13, 29, 61], [2, 6, 14, 30, 62], [0, 1, 3, 7, 15, 31, 63], [8, 9, 11, 27, 59], [8, 9, 11, 27, 59], [10, 26, 58], [8, 9, 11, 27, 59], [12, 28, 60], [4, 5, 13, 29, 61], [2, 6, 14, 30, 62], [0, 1, 3, 7, 15, 31, 63], [16, 17, 19, 23, 55], [16, 17, 19, 23, 55], [18, 22, 54], [16, 17, 19, 23, 55], [20, 21, 53], [20, 21, 53], [18, 22, 54], [16, 17, 19, 23, 55], [24, 25, 57], [24, 25, 57], [10, 26, 58], [8, 9, 11, 27, 59], [12, 28, 60], [4, 5, 13, 29, 61], [2, 6, 14, 30, 62], [0, 1, 3, 7, 15, 31, 63], [32, 33, 35, 39, 47], [32, 33, 35, 39, 47], [34, 38, 46], [32, 33, 35, 39, 47], [36, 37, 45], [36, 37, 45], [34, 38, 46], [32, 33, 35, 39, 47], [40, 41, 43], [40, 41, 43], [42], [40, 41, 43], [44], [36, 37, 45], [34, 38, 46], [32, 33, 35, 39, 47], [48, 49, 51], [48, 49, 51], [50], [48, 49, 51], [52], [20, 21, 53], [18, 22, 54], [16, 17, 19, 23, 55], [56], [24, 25, 57], [10, 26, 58], [8, 9, 11, 27, 59], [12, 28, 60], [4, 5, 13, 29, 61], [2, 6, 14, 30, 62], [0, 1, 3, 7, 15, 31, 63]]

noncomputable def at64 {α : Type} (t : List α) (d : α) (m : Nat) : α := t.getD m d
noncomputable def forthA (m : Nat) : List Nat := at64 forthT [] m
noncomputable def backA (m : Nat) : List Nat := at64 backT [] m
noncomputable def singleA (m : Nat) : List Nat := at64 singleT [] m
noncomputable def lessA (m : Nat) : Option Nat := at64 lessT none m
noncomputable def moreA (m : Nat) : Option Nat := at64 moreT none m
noncomputable def chainA (m : Nat) : List Nat := at64 chainT [] m
noncomputable def optEq : Option Nat → Option Nat → Bool
  | none, none => true
  | some a, some b => Nat.beq a b
  | _, _ => false
/-- the tables hold what the rows mean -/
noncomputable def tabsOk (m : Nat) : Bool := nbeq (forthP m) (forthA m) && nbeq (backP m) (backA m) && nbeq (singleP m) (singleA m) && optEq (lessP m) (lessA m) && optEq (moreP m) (moreA m)
theorem tabs64_a : ((List.range' 0 16).all tabsOk) = true := by kernel_rfl
theorem tabs64_b : ((List.range' 16 16).all tabsOk) = true := by kernel_rfl
theorem tabs64_c : ((List.range' 32 16).all tabsOk) = true := by kernel_rfl
theorem tabs64_d : ((List.range' 48 16).all tabsOk) = true := by kernel_rfl
theorem tabs64 : (m64.all tabsOk) = true := all64 tabs64_a tabs64_b tabs64_c tabs64_d
noncomputable def avInts (l : List Nat) : List AV := l.map fun n => .int (.ofNat n)
noncomputable def avRows (l : List Nat) : List AV := l.map fun m => .str (rowS m)
/-- a run's answer is a list of whole numbers -/
noncomputable def intsAns : Option (AV × Hp) → Option (List Nat)
  | some (.obj 0, .list xs :: _) => xs.foldr (fun x r => match x, r with | .int (.ofNat n), some l => some (n :: l) | _, _ => none) (some [])
  | _ => none
theorem single64_a : ((List.range' 0 16).all (fun m => eqO (intsAns ((evN cx0 60).c [] 217 [.str (rowS m)])) (some (singleA m)))) = true := by kernel_rfl
theorem single64_b : ((List.range' 16 16).all (fun m => eqO (intsAns ((evN cx0 60).c [] 217 [.str (rowS m)])) (some (singleA m)))) = true := by kernel_rfl
theorem single64_c : ((List.range' 32 16).all (fun m => eqO (intsAns ((evN cx0 60).c [] 217 [.str (rowS m)])) (some (singleA m)))) = true := by kernel_rfl
theorem single64_d : ((List.range' 48 16).all (fun m => eqO (intsAns ((evN cx0 60).c [] 217 [.str (rowS m)])) (some (singleA m)))) = true := by kernel_rfl
theorem single64 : (m64.all fun m => eqO (intsAns ((evN cx0 60).c [] 217 [.str (rowS m)])) (some (singleA m))) = true := all64 single64_a single64_b single64_c single64_d
end Mine

namespace Mine
open PySem PySem.Calls PyProof.Rows PySem.W

/-! a row's number -/
noncomputable def bitsOf (l : List Nat) : Nat := l.foldl (fun acc c => match Nat.beq c 45 with | true => 2 * acc | false => 2 * acc + 1) 0
noncomputable def modeOf (x : Str) : Option Nat := match nbeq (rowC (bitsOf x.cps.toList)) x.cps.toList && Nat.blt (bitsOf x.cps.toList) 64 with
  | true => some (bitsOf x.cps.toList)
  | false => none
theorem modeOf_some {x : Str} {m : Nat} (h : modeOf x = some m) : m < 64 ∧ x = rowS m := by
  refine ooT h ?_
  clear h; intros; rename_i e h
  rw [Bool.and_eq_true] at e
  cases h
  refine ⟨Nat.le_of_ble_eq_true e.2, ?_⟩
  have := nbeq_iff.mp e.1
  unfold rowS
  rw [this]
theorem rowsBack : (m64.all fun m => match modeOf (rowS m) with | some k => Nat.beq k m | none => false) = true := by kernel_rfl
theorem mem64 {m : Nat} (h : m < 64) : m ∈ m64 := List.mem_range.mpr h
theorem modeOf_row {m : Nat} (h : m < 64) : modeOf (rowS m) = some m := by
  have := List.all_eq_true.mp rowsBack m (mem64 h)
  split at this
  · rename_i k e; rw [e, Nat.eq_of_beq_eq_true this]
  · cases this

noncomputable def strO (l : List Nat) : AV := .str ⟨⟨l⟩⟩
/-- what the functions of a row give -/
noncomputable def orcF (a : Nat) (vs : List AV) : Option AV := match vs with
  | [.str x] => (match modeOf x with
    | some m => (match Nat.beq a 195 with
      | true => some (strO (forthA m))
      | false => match Nat.beq a 200 with
        | true => some (strO (backA m))
        | false => none)
    | none => none)
  | [.str x, .str y] => (match Nat.beq a 205 with
    | true => (match modeOf x with
      | some m => (match nbeq y.cps.toList (forthA m) with
        | true => some (strO (rowO (lessA m)))
        | false => match nbeq y.cps.toList (backA m) with
          | true => some (strO (rowO (moreA m)))
          | false => none)
      | none => none)
    | false => none)
  | [.int i] => (match Nat.beq a 176 with
    | true => (match i with
      | .ofNat n => (match Nat.ble 32768 n && Nat.blt (n - 32768) 64 with
        | true => some (strO ([45, 45, 45, 45] ++ rowC (n - 32768)))
        | false => none)
      | _ => none)
    | false => none)
  | _ => none
noncomputable def orcG (a : Nat) (vs : List AV) : Option (List AV) := match vs with
  | [.str x] => (match modeOf x with
    | some m => (match Nat.beq a 217 with | true => some (avInts (singleA m)) | false => none)
    | none => none)
  | _ => none
noncomputable def cx1 : Cx := ⟨globs, fun a => lkN a fnL, orcF, orcG, fun a => lkT a tabX, 60⟩

theorem eqO_some {a : Option (List Nat)} {b : List Nat} (h : eqO a (some b) = true) : a = some b := by
  unfold eqO at h
  split at h
  · rename_i x y e1 e2; cases e2; rw [nbeq_iff.mp h]
  · cases h
theorem strAns_some {r : Option (AV × Hp)} {l : List Nat} (h : strAns r = some l) : r = some (strO l, []) := by
  unfold strAns at h
  split at h
  · rename_i x e; cases h; rfl
  · cases h
theorem tabs_at {m : Nat} (h : m < 64) : forthP m = forthA m ∧ backP m = backA m ∧ singleP m = singleA m ∧ lessP m = lessA m ∧ moreP m = moreA m := by
  have := List.all_eq_true.mp tabs64 m (mem64 h)
  unfold tabsOk at this
  simp only [Bool.and_eq_true] at this
  have op : ∀ {a b : Option Nat}, optEq a b = true → a = b := by
    intro a b h
    unfold optEq at h
    split at h
    · rfl
    · rw [Nat.eq_of_beq_eq_true h]
    · cases h
  exact ⟨nbeq_iff.mp this.1.1.1.1, nbeq_iff.mp this.1.1.1.2, nbeq_iff.mp this.1.1.2, op this.1.2, op this.2⟩
theorem ints_some {r : Option (AV × Hp)} {l : List Nat} (h : intsAns r = some l) : ∃ H', r = some (.obj 0, .list (avInts l) :: H') := by
  unfold intsAns at h
  split at h
  · rename_i xs T
    refine ⟨T, ?_⟩
    have : ∀ (xs : List AV) (l : List Nat), xs.foldr (fun x r => match x, r with | .int (.ofNat n), some l => some (n :: l) | _, _ => none) (some []) = some l → xs = avInts l := by
      intro xs
      induction xs with
      | nil => intro l h; cases h; rfl
      | cons x xs ih =>
        intro l h
        rw [List.foldr_cons] at h
        split at h
        · rename_i n l' e; cases h; rw [ih _ e]; rfl
        · cases h
    rw [this _ _ h]
  · cases h
theorem avInts_imm (l : List Nat) : (avInts l).any isObj = false := by
  unfold avInts
  induction l with
  | nil => rfl
  | cons a r ih => simpa [isObj] using ih
theorem avRows_imm (l : List Nat) : (avRows l).any isObj = false := by
  unfold avRows
  induction l with
  | nil => rfl
  | cons a r ih => simpa [isObj] using ih

theorem sizes64 : (m64.all fun m => okL (avInts (singleA m)) && okL (avRows (chainA m))) = true := by kernel_rfl
section
variable {prog : Program} {w : World} {h₀ : Heap}
theorem fn_obj {cx : Cx} (G : Gd prog w cx h₀) {a : Nat} (h : (cx.fn a).isSome = true) : ∃ o fd, h₀.get? a = some o ∧ o.data = .func fd := by
  obtain ⟨fd, e⟩ := Option.isSome_iff_exists.mp h
  obtain ⟨o, h1, h2⟩ := (G.fn a fd e).obj
  exact ⟨o, fd, h1, h2⟩
theorem fn195 : (cx0.fn 195).isSome = true := by kernel_rfl
theorem fn200 : (cx0.fn 200).isSome = true := by kernel_rfl
theorem fn205 : (cx0.fn 205).isSome = true := by kernel_rfl
theorem fn176 : (cx0.fn 176).isSome = true := by kernel_rfl
theorem fn217 : (cx0.fn 217).isSome = true := by kernel_rfl
theorem fn212 : (cx0.fn 212).isSome = true := by kernel_rfl
theorem str_orc (G : Gd prog w cx0 h₀) {a : Nat} {vs : List AV} {l : List Nat} (h : eqO (strAns ((evN cx0 60).c [] a vs)) (some l) = true) :
    OrcOk prog w h₀ 60 a vs fun x s s' => ∃ h' t, s' = { s with heap := h', toks := t } ∧ VR [] (strO l) x ∧ ∀ b o, s.heap.get? b = some o → h'.get? b = some o := by
  exact run_orc G (strAns_some (eqO_some h)) rfl
theorem gd1 (G : Gd prog w cx0 h₀) : Gd prog w cx1 h₀ := by
  refine ⟨G.glob, G.nolimit, G.fn, G.gtup, fun a vs r h => ?_, fun a vs xs h => ?_⟩
  · replace h : orcF a vs = some r := h
    unfold orcF at h
    split at h
    · rename_i x
      refine ooN h ?_
      clear h; intros; rename_i m hm h
      obtain ⟨hlt, rfl⟩ := modeOf_some hm
      split at h
      · rename_i ha
        have ha := Nat.eq_of_beq_eq_true ha
        subst ha; cases h
        have t := List.all_eq_true.mp forth64 m (mem64 hlt)
        rw [(tabs_at hlt).1] at t
        exact ⟨rfl, rfl, fn_obj G fn195, str_orc G t⟩
      · refine ooT h ?_
        clear h; intros; rename_i ha h
        have ha := Nat.eq_of_beq_eq_true ha
        subst ha; cases h
        have t := List.all_eq_true.mp back64 m (mem64 hlt)
        rw [(tabs_at hlt).2.1] at t
        exact ⟨rfl, rfl, fn_obj G fn200, str_orc G t⟩
    · rename_i x y
      refine ooT h ?_
      clear h; intros; rename_i ha h
      have ha := Nat.eq_of_beq_eq_true ha
      subst ha
      refine ooN h ?_
      clear h; intros; rename_i m hm h
      obtain ⟨hlt, rfl⟩ := modeOf_some hm
      obtain ⟨t1, t2, t3, t4, t5⟩ := tabs_at hlt
      split at h
      · rename_i hy
        cases h
        have t := List.all_eq_true.mp turnF m (mem64 hlt)
        rw [t1, t4, ← nbeq_iff.mp hy] at t
        exact ⟨rfl, rfl, fn_obj G fn205, str_orc G t⟩
      · refine ooT h ?_
        clear h; intros; rename_i hy h
        cases h
        have t := List.all_eq_true.mp turnB m (mem64 hlt)
        rw [t2, t5, ← nbeq_iff.mp hy] at t
        exact ⟨rfl, rfl, fn_obj G fn205, str_orc G t⟩
    · rename_i i
      refine ooT h ?_
      clear h; intros; rename_i ha h
      have ha := Nat.eq_of_beq_eq_true ha
      subst ha
      split at h
      · rename_i n
        refine ooT h ?_
        clear h; intros; rename_i hn h
        rw [Bool.and_eq_true] at hn
        have h1 := Nat.le_of_ble_eq_true hn.1
        have h2 : n - 32768 < 64 := Nat.le_of_ble_eq_true hn.2
        cases h
        have t := List.all_eq_true.mp mode64 (n - 32768) (mem64 h2)
        rw [show 32768 + (n - 32768) = n by omega] at t
        exact ⟨rfl, rfl, fn_obj G fn176, str_orc G t⟩
      · cases h
    · cases h
  · replace h : orcG a vs = some xs := h
    unfold orcG at h
    split at h
    · rename_i x
      refine ooN h ?_
      clear h; intros; rename_i m hm h
      obtain ⟨hlt, rfl⟩ := modeOf_some hm
      refine ooT h ?_
      clear h; intros; rename_i ha h
      have ha := Nat.eq_of_beq_eq_true ha
      subst ha; cases h
      obtain ⟨H', e⟩ := ints_some (eqO_some (List.all_eq_true.mp single64 m (mem64 hlt)))
      refine ⟨rfl, avInts_imm _, ?_, fn_obj G fn217, ?_⟩
      · have := List.all_eq_true.mp sizes64 m (mem64 hlt)
        rw [Bool.and_eq_true] at this
        exact okL_le this.1
      · exact run_list G e (avInts_imm _)
    · cases h

/-- a run's answer is a list of texts -/
noncomputable def strsAns : Option (AV × Hp) → Option (List (List Nat))
  | some (.obj 0, .list xs :: _) => xs.foldr (fun x r => match x, r with | .str x, some l => some (x.cps.toList :: l) | _, _ => none) (some [])
  | _ => none
noncomputable def eqLL : List (List Nat) → List (List Nat) → Bool
  | [], [] => true
  | a :: l, b :: r => nbeq a b && eqLL l r
  | _, _ => false
noncomputable def eqOO : Option (List (List Nat)) → List (List Nat) → Bool
  | some a, b => eqLL a b
  | none, _ => false
theorem eqLL_iff : ∀ {a b : List (List Nat)}, eqLL a b = true → a = b
  | [], [], _ => rfl
  | a :: l, b :: r, h => by
    unfold eqLL at h
    rw [Bool.and_eq_true] at h
    rw [nbeq_iff.mp h.1, eqLL_iff h.2]
  | [], _ :: _, h => by cases h
  | _ :: _, [], h => by cases h
theorem strs_some {r : Option (AV × Hp)} {l : List (List Nat)} (h : strsAns r = some l) : ∃ H', r = some (.obj 0, .list (l.map strO) :: H') := by
  unfold strsAns at h
  split at h
  · rename_i xs T
    refine ⟨T, ?_⟩
    have : ∀ (xs : List AV) (l : List (List Nat)), xs.foldr (fun x r => match x, r with | .str x, some l => some (x.cps.toList :: l) | _, _ => none) (some []) = some l → xs = l.map strO := by
      intro xs
      induction xs with
      | nil => intro l h; cases h; rfl
      | cons x xs ih =>
        intro l h
        rw [List.foldr_cons] at h
        split at h
        · rename_i n l' e; cases h; rw [ih _ e]; rfl
        · cases h
    rw [this _ _ h]
  · cases h
theorem chain64 : (m64.all fun m => eqOO (strsAns ((evN cx1 60).c [] 212 [.str (rowS m)])) ((chainA m).map rowC)) = true := by kernel_rfl
/-- the chain too, then -/
noncomputable def orcH (a : Nat) (vs : List AV) : Option (List AV) := match orcG a vs with
  | some l => some l
  | none => match vs with
    | [.str x] => (match modeOf x with
      | some m => (match Nat.beq a 212 with | true => some (avRows (chainA m)) | false => none)
      | none => none)
    | _ => none
noncomputable def cx2 : Cx := ⟨globs, fun a => lkN a fnL, orcF, orcH, fun a => lkT a tabX, 120⟩
theorem OrcOk.more {r r' : Nat} {a : Addr} {vs : List AV} {K : Value → Shared → Shared → Prop} (h : r ≤ r') (x : OrcOk prog w h₀ r a vs K) : OrcOk prog w h₀ r' a vs K :=
  fun ws A s R hv hR hk hQ => x ws A s R hv (hR.le h) hk hQ
theorem gd2 (G0 : Gd prog w cx0 h₀) : Gd prog w cx2 h₀ := by
  have G := gd1 G0
  refine ⟨G.glob, G.nolimit, G.fn, G.gtup, fun a vs r h => ?_, fun a vs xs h => ?_⟩
  · obtain ⟨h1, h2, h3, h4⟩ := G.orc a vs r h
    exact ⟨h1, h2, h3, h4.more (by decide)⟩
  · replace h : orcH a vs = some xs := h
    unfold orcH at h
    split at h
    · rename_i l hl
      cases h
      obtain ⟨h1, h2, h3, h4, h5⟩ := G.orcL a vs _ hl
      exact ⟨h1, h2, h3, h4, h5.more (by decide)⟩
    · split at h
      · rename_i x
        refine ooN h ?_
        clear h; intros; rename_i m hm h
        obtain ⟨hlt, rfl⟩ := modeOf_some hm
        refine ooT h ?_
        clear h; intros; rename_i ha h
        have ha := Nat.eq_of_beq_eq_true ha
        subst ha; cases h
        have t := List.all_eq_true.mp chain64 m (mem64 hlt)
        have t2 : strsAns ((evN cx1 60).c [] 212 [.str (rowS m)]) = some ((chainA m).map rowC) := by
          unfold eqOO at t
          split at t
          · rename_i e; rw [e, eqLL_iff t]
          · cases t
        obtain ⟨H', e⟩ := strs_some t2
        have e3 : ((chainA m).map rowC).map strO = avRows (chainA m) := by rw [List.map_map]; rfl
        rw [e3] at e
        have sz := List.all_eq_true.mp sizes64 m (mem64 hlt)
        rw [Bool.and_eq_true] at sz
        exact ⟨rfl, avRows_imm _, okL_le sz.2, fn_obj G0 fn212, run_list G e (avRows_imm _)⟩
      · cases h
end
end Mine

namespace Mine
open PySem PySem.Calls PyProof.Rows PySem.W

/-! the law's statements, by their places -/
noncomputable def p0 : Pos := ⟨0, 0, 0, 0⟩
noncomputable def e0 : PySem.Expr := .Constant .none 0 p0
noncomputable def g0 : Comprehension := ⟨e0, e0, [], 0⟩
noncomputable def sc0 : Scope := { kind := .module, names := [], isGenerator := false, isCoroutine := false }
noncomputable def lawBody : List Stmt := match (PW.main.body[49]? : Option Stmt) with
  | some (.FunctionDef _ _ body _ _ _ _ _ _ _) => body
  | _ => []
noncomputable def lawScope : Scope := match (PW.main.body[49]? : Option Stmt) with
  | some (.FunctionDef _ _ _ _ _ _ scope _ _ _) => scope
  | _ => sc0
noncomputable def lawSt (i : Nat) : Stmt := match lawBody[i]? with | some st => st | none => .Pass p0
noncomputable def stAll (s : Stmt) : PySem.Expr × PySem.Expr × List Stmt := match s with
  | .Assign ts e _ => (e, match ts with | t :: _ => t | [] => e0, [])
  | .If c b _ _ => (c, e0, b)
  | .For t i b _ _ => (i, t, b)
  | .Expr e _ => (e, e0, [])
  | _ => (e0, e0, [])
noncomputable def stVal (s : Stmt) : PySem.Expr := (stAll s).1
noncomputable def stTgt (s : Stmt) : PySem.Expr := (stAll s).2.1
noncomputable def stBody (s : Stmt) : List Stmt := (stAll s).2.2
noncomputable def stPos (s : Stmt) : Pos := s.pos
noncomputable def tupEl (i : Nat) (e : PySem.Expr) : PySem.Expr := match tup? e with
  | some es => (match es[i]? with | some e => e | none => e0)
  | none => e0
noncomputable def tupK (e : PySem.Expr) : Nat := match tupP e with
  | some q => q.1.2.1
  | none => 0
noncomputable def exPos (e : PySem.Expr) : Pos := e.pos
noncomputable def lcAll (e : PySem.Expr) : PySem.Expr × List Comprehension × Scope := match e with
  | .ListComp e gs sc _ => (e, gs, sc)
  | _ => (e0, [], sc0)
noncomputable def lcElt (e : PySem.Expr) : PySem.Expr := (lcAll e).1
noncomputable def lcGen (e : PySem.Expr) : Comprehension := match (lcAll e).2.1 with | g :: _ => g | [] => g0
noncomputable def lcScope (e : PySem.Expr) : Scope := (lcAll e).2.2
noncomputable def cmpAll (e : PySem.Expr) : PySem.Expr × List PySem.Expr := match e with
  | .Compare l _ rs _ => (l, rs)
  | _ => (e0, [])
noncomputable def cmpL (e : PySem.Expr) : PySem.Expr := (cmpAll e).1
noncomputable def cmpR (e : PySem.Expr) : PySem.Expr := match (cmpAll e).2 with | r :: _ => r | [] => e0
noncomputable abbrev vS (s : String) : Str := Str.ofString s
/-- a comprehension, by its parts -/
noncomputable def lcMk (x : Str) (e : PySem.Expr) (ifs : List PySem.Expr) : PySem.Expr := .ListComp (lcElt e) [⟨.Name x (exPos (lcGen e).target), (lcGen e).iter, ifs, 0⟩] (lcScope e) (exPos e)

theorem body13 : lawBody = [lawSt 0, lawSt 1, lawSt 2, lawSt 3, lawSt 4, lawSt 5, lawSt 6, lawSt 7, lawSt 8, lawSt 9, lawSt 10, lawSt 11, lawSt 12] := by kernel_rfl
theorem sh0 : lawSt 0 = .Assign [.Name (vS "modes") (exPos (stTgt (lawSt 0)))] (lcMk (vS "v") (stVal (lawSt 0)) []) (stPos (lawSt 0)) := by kernel_rfl
theorem sh1 : lawSt 1 = .Assign [.Name (vS "rows") (exPos (stTgt (lawSt 1)))] (lcMk (vS "mode") (stVal (lawSt 1)) []) (stPos (lawSt 1)) := by kernel_rfl
theorem sh2 : lawSt 2 = .If (.Compare (.Name (vS "rows") (exPos (cmpL (stVal (lawSt 2))))) [.NotEq] [lcMk (vS "mode") (cmpR (stVal (lawSt 2))) []] (exPos (stVal (lawSt 2)))) (stBody (lawSt 2)) [] (stPos (lawSt 2)) := by kernel_rfl
theorem sh3 : lawSt 3 = .Assign [.Name (vS "rows") (exPos (stTgt (lawSt 3)))] (lcMk (vS "row") (stVal (lawSt 3)) []) (stPos (lawSt 3)) := by kernel_rfl
theorem sh4 : lawSt 4 = .Assign [.Name (vS "chains") (exPos (stTgt (lawSt 4)))] (lcMk (vS "row") (stVal (lawSt 4)) []) (stPos (lawSt 4)) := by kernel_rfl
theorem sh5 : lawSt 5 = .If (.Compare (lcMk (vS "chain") (cmpL (stVal (lawSt 5))) (lcGen (cmpL (stVal (lawSt 5)))).ifs) [.NotEq] [.List [] (exPos (cmpR (stVal (lawSt 5))))] (exPos (stVal (lawSt 5)))) (stBody (lawSt 5)) [] (stPos (lawSt 5)) := by kernel_rfl
theorem sh7 : lawSt 7 = .For (.Name (vS "row") (exPos (stTgt (lawSt 7)))) (stVal (lawSt 7)) (stBody (lawSt 7)) [] (stPos (lawSt 7)) := by kernel_rfl
theorem sh10 : lawSt 10 = .For (.Name (vS "k") (exPos (stTgt (lawSt 10)))) (stVal (lawSt 10)) (stBody (lawSt 10)) [] (stPos (lawSt 10)) := by kernel_rfl
theorem sh11 : lawSt 11 = .For (.Tuple [.Name (vS "row") (exPos (tupEl 0 (stTgt (lawSt 11)))), .Name (vS "chain") (exPos (tupEl 1 (stTgt (lawSt 11)))), .Name (vS "core") (exPos (tupEl 2 (stTgt (lawSt 11))))] (tupK (stTgt (lawSt 11))) (exPos (stTgt (lawSt 11)))) (stVal (lawSt 11)) (stBody (lawSt 11)) [] (stPos (lawSt 11)) := by kernel_rfl
end Mine

namespace Mine
open PySem PySem.Calls PyProof.Rows PySem.W

noncomputable def aeL : AEnv := ⟨lawScope.names, 0, cellsAt 1 lawScope.names⟩
noncomputable abbrev HL (nm : List (Str × AV)) (r c sg l : Option AV) (ls : List AObj) : Hp := .ns nm :: .cell r :: .cell c :: .cell sg :: .cell l :: ls
noncomputable abbrev KE : Nat := 30
noncomputable abbrev evL : Ev := evN cx2 KE

/-! what a run left: Bool looks -/
noncomputable def avEq : AV → AV → Bool
  | .none, .none => true
  | .bool a, .bool b => a == b
  | .int i, .int j => decide (i = j)
  | .str x, .str y => seq x y
  | .obj a, .obj b => Nat.beq a b
  | .gref a, .gref b => Nat.beq a b
  | _, _ => false
theorem avEq_iff {a b : AV} (h : avEq a b = true) : a = b := by
  unfold avEq at h
  split at h
  · rfl
  · rw [eq_of_beq h]
  · rw [of_decide_eq_true h]
  · rw [seq_iff.mp h]
  · rw [Nat.eq_of_beq_eq_true h]
  · rw [Nat.eq_of_beq_eq_true h]
  · cases h
noncomputable def avsEq : List AV → List AV → Bool
  | [], [] => true
  | a :: l, b :: r => avEq a b && avsEq l r
  | _, _ => false
theorem avsEq_iff : ∀ {a b : List AV}, avsEq a b = true → a = b
  | [], [], _ => rfl
  | a :: l, b :: r, h => by
    unfold avsEq at h
    rw [Bool.and_eq_true] at h
    rw [avEq_iff h.1, avsEq_iff h.2]
  | [], _ :: _, h => by cases h
  | _ :: _, [], h => by cases h
noncomputable def nmEq : List (Str × AV) → List (Str × AV) → Bool
  | [], [] => true
  | (x, a) :: l, (y, b) :: r => seq x y && avEq a b && nmEq l r
  | _, _ => false
theorem nmEq_iff : ∀ {a b : List (Str × AV)}, nmEq a b = true → a = b
  | [], [], _ => rfl
  | (x, a) :: l, (y, b) :: r, h => by
    unfold nmEq at h
    rw [Bool.and_eq_true, Bool.and_eq_true] at h
    rw [seq_iff.mp h.1.1, avEq_iff h.1.2, nmEq_iff h.2]
  | [], _ :: _, h => by cases h
  | _ :: _, [], h => by cases h
noncomputable def oEq : AObj → AObj → Bool
  | .list a, .list b => avsEq a b
  | .flist a, .flist b => avsEq a b
  | .tup a, .tup b => avsEq a b
  | .ns a, .ns b => nmEq a b
  | .cell none, .cell none => true
  | .cell (some a), .cell (some b) => avEq a b
  | _, _ => false
theorem oEq_iff {a b : AObj} (h : oEq a b = true) : a = b := by
  unfold oEq at h
  split at h
  · rw [avsEq_iff h]
  · rw [avsEq_iff h]
  · rw [avsEq_iff h]
  · rw [nmEq_iff h]
  · rfl
  · rw [avEq_iff h]
  · cases h
/-- the first things are still the same -/
noncomputable def hpPre : Hp → Hp → Bool
  | [], _ => true
  | a :: l, b :: r => oEq a b && hpPre l r
  | _ :: _, [] => false
theorem hpPre_iff : ∀ {a b : Hp}, hpPre a b = true → ∃ T, b = a ++ T
  | [], b, _ => ⟨b, rfl⟩
  | a :: l, b :: r, h => by
    unfold hpPre at h
    rw [Bool.and_eq_true] at h
    obtain ⟨T, e⟩ := hpPre_iff h.2
    exact ⟨T, by rw [oEq_iff h.1, e]; rfl⟩
  | _ :: _, [], h => by cases h
noncomputable def okE (r : Option (AV × Hp)) (own : Hp) (v : AV) : Bool := match r with
  | some (u, H') => avEq u v && hpPre own H'
  | none => false
theorem okE_sound {r : Option (AV × Hp)} {own : Hp} {v : AV} (h : okE r own v = true) : ∃ T, r = some (v, own ++ T) := by
  unfold okE at h
  split at h
  · rw [Bool.and_eq_true] at h
    obtain ⟨T, e⟩ := hpPre_iff h.2
    exact ⟨T, by rw [avEq_iff h.1, e]⟩
  · cases h
noncomputable def okL1 (r : Option (AV × Hp)) (own : Hp) (xs : List AV) : Bool := match r with
  | some (.obj k, H') => hpPre own H' && Nat.ble own.length k && (match H'[k]? with | some (.list ys) => avsEq ys xs | _ => false)
  | _ => false
theorem okL1_sound {r : Option (AV × Hp)} {own : Hp} {xs : List AV} (h : okL1 r own xs = true) : ∃ T j, r = some (.obj (own.length + j), own ++ T) ∧ T[j]? = some (.list xs) := by
  unfold okL1 at h
  split at h
  · rename_i k H'
    rw [Bool.and_eq_true, Bool.and_eq_true] at h
    obtain ⟨T, e⟩ := hpPre_iff h.1.1
    have hk := Nat.le_of_ble_eq_true h.1.2
    have h3 := h.2
    split at h3
    · rename_i ys e3
      refine ⟨T, k - own.length, by rw [e, show own.length + (k - own.length) = k by omega], ?_⟩
      rw [e, List.getElem?_append_right hk] at e3
      rw [e3, avsEq_iff h3]
    · cases h3
  · cases h

section
variable {prog : Program} {w : World} {h₀ : Heap}
variable {B : Base} {ρ : List Addr} {H H' H1 H2 : Hp} {s : Shared} {env : Env} {A : Around} {E : Value → Shared → Prop} {Q : Flow → Shared → Prop}

/-! modes = [v % 64 for v in script[:2] + [33, 12]] -/
noncomputable abbrev c0 : PySem.Expr := stVal (lawSt 0)
noncomputable def f0 : AV → AV
  | .int i => .int (Int.fmod i 64)
  | v => v
theorem sc0_ok : scopeOk (lcScope c0) = true := by kernel_rfl
theorem cl0 : closure aeL.cells (lcScope c0).names = some [] := by kernel_rfl
theorem lk0 : lkp (vS "v") (lcScope c0).names = some .local := by kernel_rfl
theorem cells0 (N : Nat) : cellsAt N (lcScope c0).names = [] := by kernel_rfl
theorem run0 (i : Int) : (evL).e ⟨(lcScope c0).names, 0, cellsAt 1 (lcScope c0).names⟩ (ownL (vS "v") (some (.int i))) (cE 40 (lcElt c0)) = some (.int (Int.fmod i 64), ownL (vS "v") (some (.int i))) := by kernel_rfl
noncomputable abbrev nm0 : List (Str × AV) := [(vS "script", .obj 5)]
noncomputable abbrev it0R (scr items : List AV) : Option (List AV × Option Nat × Hp) := some (items, some 8, HL nm0 none none none none [.flist scr, .list (scr.take 2), .list [.int 33, .int 12], .flist items])
theorem it0_0 : itemsOf cx2 evL aeL (HL nm0 none none none none [.flist []]) (cE 40 (lcGen c0).iter) = it0R [] [.int 33, .int 12] := by kernel_rfl
theorem it0_1 (a : Int) : itemsOf cx2 evL aeL (HL nm0 none none none none [.flist [.int a]]) (cE 40 (lcGen c0).iter) = it0R [.int a] [.int a, .int 33, .int 12] := by kernel_rfl
theorem it0_2 (a b : Int) (r : List AV) : itemsOf cx2 evL aeL (HL nm0 none none none none [.flist (.int a :: .int b :: r)]) (cE 40 (lcGen c0).iter) = it0R (.int a :: .int b :: r) [.int a, .int b, .int 33, .int 12] := by kernel_rfl

theorem low_flist {n : Nat} {xs : List AV} (h : xs.any isObj = false) : lowO n (.flist xs) = true := noObj_low h
theorem low_list {n : Nat} {xs : List AV} (h : xs.any isObj = false) : lowO n (.list xs) = true := noObj_low h
noncomputable abbrev nm1 : List (Str × AV) := [(vS "script", .obj 5), (vS "modes", .obj 9)]
noncomputable abbrev N2 : Nat := cx2.r + KE
/-- the modes: one or two of the script's, and two that stand fast -/
noncomputable def Modes (ms : List Nat) : Prop := ∃ l : List Nat, l.length ≤ 2 ∧ (∀ m ∈ l, m < 64) ∧ ms = l ++ [33, 12]
theorem Modes.lt {ms : List Nat} (h : Modes ms) : ∀ m ∈ ms, m < 64 := by
  obtain ⟨l, _, h2, rfl⟩ := h
  intro m hm
  rcases List.mem_append.mp hm with h | h
  · exact h2 m h
  · simp at h; omega
theorem Modes.len {ms : List Nat} (h : Modes ms) : ms.length ≤ 4 := by
  obtain ⟨l, h1, _, rfl⟩ := h
  simp; omega
theorem fmod64 (i : Int) : ∃ m : Nat, m < 64 ∧ Int.fmod i 64 = .ofNat m := by
  have h1 := Int.fmod_nonneg_of_pos i (b := 64) (by decide)
  have h2 := Int.fmod_lt_of_pos i (b := 64) (by decide)
  obtain ⟨m, hm⟩ := Int.eq_ofNat_of_zero_le h1
  exact ⟨m, by omega, hm⟩
noncomputable abbrev P4 (a b c d : List AV) : List AObj := [.flist a, .list b, .list c, .list d]
noncomputable def Imm4 (a b c d : List AV) : Prop := a.any isObj = false ∧ b.any isObj = false ∧ c.any isObj = false ∧ d.any isObj = false

theorem ints_imm (ns : List Int) : (ns.map AV.int).any isObj = false := by
  induction ns with
  | nil => rfl
  | cons a r ih => simpa [isObj] using ih
theorem fmods : ∀ js : List Int, ∃ l : List Nat, l.length = js.length ∧ (∀ m ∈ l, m < 64) ∧ (js.map AV.int).map f0 = avInts l
  | [] => ⟨[], rfl, (by simp), rfl⟩
  | j :: r => by
    obtain ⟨l, h1, h2, h3⟩ := fmods r
    obtain ⟨m, hm, e⟩ := fmod64 j
    refine ⟨m :: l, by simp [h1], fun x hx => ?_, ?_⟩
    · rcases List.mem_cons.mp hx with rfl | hx
      · exact hm
      · exact h2 x hx
    · rw [List.map_cons, List.map_cons, h3]
      show AV.int (Int.fmod j 64) :: _ = _
      rw [e]; rfl
theorem st0 (G : Gd prog w cx2 h₀) {ns : List Int} (c : Here h₀ B ρ aeL env (HL nm0 none none none none [.flist (ns.map AV.int)]) s A N2)
    (hQ : ∀ ms a b d e B' ρ' s', Modes ms → Imm4 a b d e → Here h₀ B' ρ' aeL env (HL nm1 none none none none (P4 a b d e ++ [.list (avInts ms)])) s' A N2 → Same s s' → Grow B B' → ρ <+: ρ' → Q .next s') :
    wpAny (model prog w) A (exec (lawSt 0) env) Q E s := by
  have key : ∀ (js : List Int), js.length ≤ 2 → itemsOf cx2 evL aeL (HL nm0 none none none none [.flist (ns.map AV.int)]) (cE 40 (lcGen c0).iter) = it0R (ns.map AV.int) (js.map AV.int ++ [AV.int 33, AV.int 12]) →
      wpAny (model prog w) A (exec (lawSt 0) env) Q E s := by
    intro js hjs hit
    rw [sh0]
    have hall : ∀ v ∈ js.map AV.int ++ [AV.int 33, AV.int 12], ∃ i : Int, v = .int i := by
      intro v hv
      rcases List.mem_append.mp hv with h | h
      · obtain ⟨i, _, rfl⟩ := List.mem_map.mp h; exact ⟨i, rfl⟩
      · simp at h; rcases h with rfl | rfl <;> exact ⟨_, rfl⟩
    have hi2 : (js.map AV.int ++ [AV.int 33, AV.int 12]).any isObj = false := by
      rw [List.any_append, ints_imm]; rfl
    have htk : ((ns.map AV.int).take 2).any isObj = false := by rw [← List.map_take]; exact ints_imm _
    refine asg_rel c.V (comp_map (H2 := HL nm0 none none none none [.flist (ns.map AV.int), .list ((ns.map AV.int).take 2), .list [AV.int 33, AV.int 12], .list (js.map AV.int ++ [AV.int 33, AV.int 12])]) G f0 c sc0_ok hit cl0 (ownL_kind lk0 cells0) (fun t => rfl) rfl ?_ ?_ ?_) fun H' B' g hH => ?_
    · simp only [HL, List.all_cons, List.all_nil, low_flist (ints_imm ns), low_list htk, low_list hi2, Bool.true_and, Bool.and_true]
      rfl
    · rw [List.length_append, List.length_map]
      show _ < 1048576
      simp; omega
    · intro v hv
      obtain ⟨i, rfl⟩ := hall v hv
      exact ⟨rfl, rfl, [], by rw [run0, List.append_nil]; rfl⟩
    · subst hH
      refine ⟨_, rfl, fun s' ρ' sm p S' => ?_⟩
      obtain ⟨l, hl1, hl2, hl3⟩ := fmods js
      have e : (js.map AV.int ++ [AV.int 33, AV.int 12]).map f0 = avInts (l ++ [33, 12]) := by
        rw [List.map_append, hl3, avInts, avInts, List.map_append]; rfl
      rw [e] at S'
      exact hQ (l ++ [33, 12]) _ _ _ _ B' ρ' s' ⟨l, by omega, hl2, rfl⟩ ⟨ints_imm ns, htk, rfl, hi2⟩ ⟨fun b o h => g _ _ (c.hB b o h), c.V.mono p, S', c.R⟩ sm g p
  match ns, c with
  | [], c => exact key [] (by simp) it0_0
  | [a], c => exact key [a] (by simp) (it0_1 a)
  | a :: b :: r, c => exact key [a, b] (by simp) (it0_2 a b _)
end
end Mine

namespace Mine
open PySem PySem.Calls PyProof.Rows PySem.W

section
variable {prog : Program} {w : World} {h₀ : Heap}
variable {B : Base} {ρ : List Addr} {H H' H1 H2 : Hp} {s : Shared} {env : Env} {A : Around} {E : Value → Shared → Prop} {Q : Flow → Shared → Prop}

/-! rows = [filemode(S_IFREG + mode) for mode in modes] -/
noncomputable abbrev c1 : PySem.Expr := stVal (lawSt 1)
noncomputable def row10 (m : Nat) : List Nat := [45, 45, 45, 45] ++ rowC m
noncomputable def f1 : AV → AV
  | .int (.ofNat m) => strO (row10 m)
  | v => v
noncomputable def avRow10 (ms : List Nat) : List AV := ms.map fun m => strO (row10 m)
theorem avRow10_imm (l : List Nat) : (avRow10 l).any isObj = false := by
  unfold avRow10
  induction l with
  | nil => rfl
  | cons a r ih => simpa [isObj, strO] using ih
theorem f1_map (ms : List Nat) : (avInts ms).map f1 = avRow10 ms := by unfold avInts avRow10; rw [List.map_map]; rfl
theorem sc1_ok : scopeOk (lcScope c1) = true := by kernel_rfl
theorem cl1 : closure aeL.cells (lcScope c1).names = some [] := by kernel_rfl
theorem lk1 : lkp (vS "mode") (lcScope c1).names = some .local := by kernel_rfl
theorem cells1 (N : Nat) : cellsAt N (lcScope c1).names = [] := by kernel_rfl
theorem run1 : (m64.all fun m => okE (evL.e ⟨(lcScope c1).names, 0, cellsAt 1 (lcScope c1).names⟩ (ownL (vS "mode") (some (.int (.ofNat m)))) (cE 40 (lcElt c1))) (ownL (vS "mode") (some (.int (.ofNat m)))) (strO (row10 m))) = true := by kernel_rfl
theorem it1 (a b d e ms : List AV) : itemsOf cx2 evL aeL (HL nm1 none none none none (P4 a b d e ++ [.list ms])) (cE 40 (lcGen c1).iter) = some (ms, some 9, HL nm1 none none none none (P4 a b d e ++ [.flist ms])) := by kernel_rfl
noncomputable abbrev nm2 : List (Str × AV) := [(vS "script", .obj 5), (vS "modes", .obj 9), (vS "rows", .obj 10)]
theorem ints_mem {ms : List Nat} {v : AV} (h : v ∈ avInts ms) : ∃ m ∈ ms, v = .int (.ofNat m) := by
  obtain ⟨m, hm, e⟩ := List.mem_map.mp h; exact ⟨m, hm, e.symm⟩
theorem len_lim {ms : List Nat} (h : Modes ms) : ms.length < lim := by
  have := h.len
  show ms.length < 1048576
  omega
theorem avInts_len (ms : List Nat) : (avInts ms).length = ms.length := by unfold avInts; rw [List.length_map]

theorem st1 (G : Gd prog w cx2 h₀) {ms : List Nat} (hm : Modes ms) {a b d e : List AV} (hI : Imm4 a b d e) (c : Here h₀ B ρ aeL env (HL nm1 none none none none (P4 a b d e ++ [.list (avInts ms)])) s A N2)
    (hQ : ∀ B' ρ' s', Here h₀ B' ρ' aeL env (HL nm2 none none none none (P4 a b d e ++ [.list (avInts ms), .list (avRow10 ms)])) s' A N2 → Same s s' → Grow B B' → ρ <+: ρ' → Q .next s') :
    wpAny (model prog w) A (exec (lawSt 1) env) Q E s := by
  obtain ⟨i1, i2, i3, i4⟩ := hI
  rw [sh1]
  refine asg_rel c.V (comp_map (H2 := HL nm1 none none none none (P4 a b d e ++ [.list (avInts ms)])) G f1 c sc1_ok (it1 a b d e _) cl1 (ownL_kind lk1 cells1) (fun t => rfl) rfl ?_ ?_ ?_) fun H' B' g hH => ?_
  · simp only [HL, P4, List.cons_append, List.nil_append, List.all_cons, List.all_nil, low_flist i1, low_list i2, low_list i3, low_list i4, low_list (avInts_imm ms), Bool.true_and, Bool.and_true]
    rfl
  · rw [avInts_len]; exact len_lim hm
  · intro v hv
    obtain ⟨m, hmm, rfl⟩ := ints_mem hv
    exact ⟨rfl, rfl, okE_sound (List.all_eq_true.mp run1 m (mem64 (hm.lt m hmm)))⟩
  · subst hH
    refine ⟨_, rfl, fun s' ρ' sm p S' => ?_⟩
    rw [f1_map] at S'
    exact hQ B' ρ' s' ⟨fun b o h => g _ _ (c.hB b o h), c.V.mono p, S', c.R⟩ sm g p

/-! if rows != [...]: return False -/
noncomputable abbrev c2 : PySem.Expr := cmpR (stVal (lawSt 2))
theorem sc2_ok : scopeOk (lcScope c2) = true := by kernel_rfl
theorem cl2 : closure aeL.cells (lcScope c2).names = some [] := by kernel_rfl
theorem lk2 : lkp (vS "mode") (lcScope c2).names = some .cell := by kernel_rfl
theorem cells2 (N : Nat) : cellsAt N (lcScope c2).names = [(vS "mode", N)] := by kernel_rfl
theorem run2 : (m64.all fun m => okE (evL.e ⟨(lcScope c2).names, 0, cellsAt 1 (lcScope c2).names⟩ (ownC (some (.int (.ofNat m)))) (cE 40 (lcElt c2))) (ownC (some (.int (.ofNat m)))) (strO (row10 m))) = true := by kernel_rfl
theorem it2 (a b d e ms rs : List AV) : itemsOf cx2 evL aeL (HL nm2 none none none none (P4 a b d e ++ [.list ms, .list rs])) (cE 40 (lcGen c2).iter) = some (ms, some 9, HL nm2 none none none none (P4 a b d e ++ [.flist ms, .list rs])) := by kernel_rfl
theorem rd_rows (a b d e ms rs : List AV) : rdVar cx2 aeL (HL nm2 none none none none (P4 a b d e ++ [.list ms, .list rs])) (vS "rows") = some (.obj 10) := by kernel_rfl
theorem same_strs {H : Hp} {n : Nat} : ∀ {xs : List AV}, (∀ x ∈ xs, ∃ t, x = .str t) → allM (aeq H (n + 1)) xs xs = some true
  | [], _ => rfl
  | x :: xs, h => by
    obtain ⟨t, rfl⟩ := h _ List.mem_cons_self
    unfold allM
    rw [same_strs fun y hy => h y (List.mem_cons_of_mem _ hy)]
    show both (some (seq t t)) (some true) = some true
    rw [seq_self]; rfl
theorem aeq_same_list {H : Hp} {k l : Nat} {xs : List AV} (hk : rdList H k = some xs) (hl : rdList H l = some xs) (h : ∀ x ∈ xs, ∃ t, x = .str t) : aeq H 8 (.obj k) (.obj l) = some true := by
  show aeqL H (aeq H 7) k l = some true
  unfold aeqL
  rw [hk, hl]
  simp only [show Nat.beq xs.length xs.length = true from Nat.beq_refl _]
  exact same_strs h
theorem st2 (G : Gd prog w cx2 h₀) {ms : List Nat} (hm : Modes ms) {a b d e : List AV} (hI : Imm4 a b d e) (c : Here h₀ B ρ aeL env (HL nm2 none none none none (P4 a b d e ++ [.list (avInts ms), .list (avRow10 ms)])) s A N2)
    (hQ : ∀ B' ρ' s', Here h₀ B' ρ' aeL env (HL nm2 none none none none (P4 a b d e ++ [.list (avInts ms), .list (avRow10 ms)])) s' A N2 → Same s s' → Grow B B' → ρ <+: ρ' → Q .next s') :
    wpAny (model prog w) A (exec (lawSt 2) env) Q E s := by
  obtain ⟨i1, i2, i3, i4⟩ := hI
  rw [sh2]
  refine wpAny_If (wpAny_isTrue_Compare1 (wpAny_Name (rdVar_sound G (rd_rows a b d e _ _) c.hB c.V c.S fun u hu => ?_) (by decide +kernel)) rfl)
  refine eval_rel (comp_map (H2 := HL nm2 none none none none (P4 a b d e ++ [.list (avInts ms), .list (avRow10 ms)])) G f1 c sc2_ok (it2 a b d e _ _) cl2 (ownC_kind lk2 cells2) (fun t => rfl) rfl ?_ ?_ ?_) fun H' B' g hH z s' ρ' sm p hz S' => ?_
  · simp only [HL, P4, List.cons_append, List.nil_append, List.all_cons, List.all_nil, low_flist i1, low_list i2, low_list i3, low_list i4, low_list (avInts_imm ms), low_list (avRow10_imm ms), Bool.true_and, Bool.and_true]
    rfl
  · rw [avInts_len]; exact len_lim hm
  · intro v hv
    obtain ⟨m, hmm, rfl⟩ := ints_mem hv
    exact ⟨rfl, rfl, okE_sound (List.all_eq_true.mp run2 m (mem64 (hm.lt m hmm)))⟩
  · subst hH
    rw [f1_map] at S'
    have hc : cmpop (HL nm2 none none none none (P4 a b d e ++ [.list (avInts ms), .list (avRow10 ms)]) ++ [.list (avRow10 ms)]) .NotEq (.obj 10) (.obj 11) = some false := by
      show (aeq _ 8 _ _).map (!·) = _
      rw [aeq_same_list (xs := avRow10 ms) rfl rfl fun x hx => by obtain ⟨m, _, e⟩ := List.mem_map.mp hx; exact ⟨_, e.symm⟩]; rfl
    refine cmpop_sound S' hc (hu.mono p) hz c.R.u20 (wpAny_truthy_bool ?_)
    simp only [Bool.false_eq_true, if_false]
    have hlen : ρ.length = (HL nm2 none none none none (P4 a b d e ++ [AObj.list (avInts ms), .list (avRow10 ms)])).length := c.S.len
    have S2 := S'.cutTo p (by
      rw [hlen, List.take_left']
      simp only [HL, P4, List.cons_append, List.nil_append, List.all_cons, List.all_nil, low_flist i1, low_list i2, low_list i3, low_list i4, low_list (avInts_imm ms), low_list (avRow10_imm ms), Bool.true_and, Bool.and_true]
      · rfl
      · rfl)
    rw [hlen, List.take_left' rfl] at S2
    exact wpAny_execs_nil (hQ B' ρ s' ⟨fun b o h => g _ _ (c.hB b o h), c.V, S2, c.R⟩ sm g (List.prefix_refl _))
end
end Mine

namespace Mine
open PySem PySem.Calls PyProof.Rows PySem.W

section
variable {prog : Program} {w : World} {h₀ : Heap}
variable {B : Base} {ρ : List Addr} {H H' H1 H2 : Hp} {s : Shared} {env : Env} {A : Around} {E : Value → Shared → Prop} {Q : Flow → Shared → Prop}

/-! rows = [row[4:] for row in rows] -/
noncomputable abbrev c3 : PySem.Expr := stVal (lawSt 3)
noncomputable def f3 : AV → AV
  | .str x => .str ⟨⟨x.cps.toList.drop 4⟩⟩
  | v => v
theorem f3_map (ms : List Nat) : (avRow10 ms).map f3 = avRows ms := by unfold avRow10 avRows; rw [List.map_map]; rfl
theorem sc3_ok : scopeOk (lcScope c3) = true := by kernel_rfl
theorem cl3 : closure aeL.cells (lcScope c3).names = some [] := by kernel_rfl
theorem lk3 : lkp (vS "row") (lcScope c3).names = some .local := by kernel_rfl
theorem cells3 (N : Nat) : cellsAt N (lcScope c3).names = [] := by kernel_rfl
theorem run3 : (m64.all fun m => okE (evL.e ⟨(lcScope c3).names, 0, cellsAt 1 (lcScope c3).names⟩ (ownL (vS "row") (some (strO (row10 m)))) (cE 40 (lcElt c3))) (ownL (vS "row") (some (strO (row10 m)))) (f3 (strO (row10 m)))) = true := by kernel_rfl
theorem it3 (a b d e ms rs : List AV) : itemsOf cx2 evL aeL (HL nm2 none none none none (P4 a b d e ++ [.list ms, .list rs])) (cE 40 (lcGen c3).iter) = some (rs, some 10, HL nm2 none none none none (P4 a b d e ++ [.list ms, .flist rs])) := by kernel_rfl
noncomputable abbrev nm3 : List (Str × AV) := [(vS "script", .obj 5), (vS "modes", .obj 9), (vS "rows", .obj 11)]
theorem row10_mem {ms : List Nat} {v : AV} (h : v ∈ avRow10 ms) : ∃ m ∈ ms, v = strO (row10 m) := by
  obtain ⟨m, hm, e⟩ := List.mem_map.mp h; exact ⟨m, hm, e.symm⟩
theorem rows_mem {ms : List Nat} {v : AV} (h : v ∈ avRows ms) : ∃ m ∈ ms, v = .str (rowS m) := by
  obtain ⟨m, hm, e⟩ := List.mem_map.mp h; exact ⟨m, hm, e.symm⟩

theorem st3 (G : Gd prog w cx2 h₀) {ms : List Nat} (hm : Modes ms) {a b d e : List AV} (hI : Imm4 a b d e) (c : Here h₀ B ρ aeL env (HL nm2 none none none none (P4 a b d e ++ [.list (avInts ms), .list (avRow10 ms)])) s A N2)
    (hQ : ∀ B' ρ' s', Here h₀ B' ρ' aeL env (HL nm3 none none none none (P4 a b d e ++ [.list (avInts ms), .list (avRow10 ms), .list (avRows ms)])) s' A N2 → Same s s' → Grow B B' → ρ <+: ρ' → Q .next s') :
    wpAny (model prog w) A (exec (lawSt 3) env) Q E s := by
  obtain ⟨i1, i2, i3, i4⟩ := hI
  rw [sh3]
  refine asg_rel c.V (comp_map (H2 := HL nm2 none none none none (P4 a b d e ++ [.list (avInts ms), .list (avRow10 ms)])) G f3 c sc3_ok (it3 a b d e _ _) cl3 (ownL_kind lk3 cells3) (fun t => rfl) rfl ?_ ?_ ?_) fun H' B' g hH => ?_
  · simp only [HL, P4, List.cons_append, List.nil_append, List.all_cons, List.all_nil, low_flist i1, low_list i2, low_list i3, low_list i4, low_list (avInts_imm ms), low_list (avRow10_imm ms), Bool.and_true]
    rfl
  · unfold avRow10; rw [List.length_map]; exact len_lim hm
  · intro v hv
    obtain ⟨m, hmm, rfl⟩ := row10_mem hv
    exact ⟨rfl, rfl, okE_sound (List.all_eq_true.mp run3 m (mem64 (hm.lt m hmm)))⟩
  · subst hH
    refine ⟨_, rfl, fun s' ρ' sm p S' => ?_⟩
    rw [f3_map] at S'
    exact hQ B' ρ' s' ⟨fun b o h => g _ _ (c.hB b o h), c.V.mono p, S', c.R⟩ sm g p

/-! chains = [_law_chain(row) for row in rows] -/
noncomputable abbrev c4 : PySem.Expr := stVal (lawSt 4)
noncomputable def f4 : AV → List AV
  | .str x => (match modeOf x with | some m => avRows (chainA m) | none => [])
  | _ => []
theorem f4_row {m : Nat} (h : m < 64) : f4 (.str (rowS m)) = avRows (chainA m) := by
  show (match modeOf (rowS m) with | some m => avRows (chainA m) | none => []) = _
  rw [modeOf_row h]
theorem sc4_ok : scopeOk (lcScope c4) = true := by kernel_rfl
theorem cl4 : closure aeL.cells (lcScope c4).names = some [] := by kernel_rfl
theorem lk4 : lkp (vS "row") (lcScope c4).names = some .local := by kernel_rfl
theorem cells4 (N : Nat) : cellsAt N (lcScope c4).names = [] := by kernel_rfl
theorem run4 : (m64.all fun m => okL1 (evL.e ⟨(lcScope c4).names, 0, cellsAt 1 (lcScope c4).names⟩ (ownL (vS "row") (some (.str (rowS m)))) (cE 40 (lcElt c4))) (ownL (vS "row") (some (.str (rowS m)))) (avRows (chainA m))) = true := by kernel_rfl
theorem it4 (a b d e ms rs qs : List AV) : itemsOf cx2 evL aeL (HL nm3 none none none none (P4 a b d e ++ [.list ms, .list rs, .list qs])) (cE 40 (lcGen c4).iter) = some (qs, some 11, HL nm3 none none none none (P4 a b d e ++ [.list ms, .list rs, .flist qs])) := by kernel_rfl
noncomputable abbrev nm4 : List (Str × AV) := [(vS "script", .obj 5), (vS "modes", .obj 9), (vS "rows", .obj 11), (vS "chains", .obj 12)]
noncomputable def Chains (B : Base) (ds : List Addr) (ms : List Nat) : Prop := ds.length = ms.length ∧ ds.Nodup ∧ ∀ (j : Nat) (d : Addr) (m : Nat), ds[j]? = some d → ms[j]? = some m → PL B d (avRows (chainA m))
theorem Chains.grow {B B' : Base} {ds : List Addr} {ms : List Nat} (h : Chains B ds ms) (g : Grow B B') : Chains B' ds ms := ⟨h.1, h.2.1, fun j d m e1 e2 => (h.2.2 j d m e1 e2).grow g⟩
noncomputable def refs (ds : List Addr) : List AV := ds.map .gref
theorem refs_imm (l : List Addr) : (refs l).any isObj = false := by
  unfold refs
  induction l with
  | nil => rfl
  | cons a r ih => simpa [isObj] using ih

theorem st4 (G : Gd prog w cx2 h₀) {ms : List Nat} (hm : Modes ms) {a b d e : List AV} (hI : Imm4 a b d e) (c : Here h₀ B ρ aeL env (HL nm3 none none none none (P4 a b d e ++ [.list (avInts ms), .list (avRow10 ms), .list (avRows ms)])) s A N2)
    (hQ : ∀ ds B' ρ' s', Chains B' ds ms → Here h₀ B' ρ' aeL env (HL nm4 none none none none (P4 a b d e ++ [.list (avInts ms), .list (avRow10 ms), .list (avRows ms), .list (refs ds)])) s' A N2 → Same s s' → Grow B B' → ρ <+: ρ' → Q .next s') :
    wpAny (model prog w) A (exec (lawSt 4) env) Q E s := by
  obtain ⟨i1, i2, i3, i4⟩ := hI
  rw [sh4]
  refine asg_rel c.V (comp_lists (H2 := HL nm3 none none none none (P4 a b d e ++ [.list (avInts ms), .list (avRow10 ms), .list (avRows ms)])) G f4 c sc4_ok (it4 a b d e _ _ _) cl4 (ownL_kind lk4 cells4) (fun t => rfl) rfl ?_ ?_ ?_) fun H' B' g hH => ?_
  · simp only [HL, P4, List.cons_append, List.nil_append, List.all_cons, List.all_nil, low_flist i1, low_list i2, low_list i3, low_list i4, low_list (avInts_imm ms), low_list (avRow10_imm ms), low_list (avRows_imm ms), Bool.and_true]
    rfl
  · unfold avRows; rw [List.length_map]; exact len_lim hm
  · intro v hv
    obtain ⟨m, hmm, rfl⟩ := rows_mem hv
    rw [f4_row (hm.lt m hmm)]
    exact ⟨rfl, avRows_imm _, okL1_sound (List.all_eq_true.mp run4 m (mem64 (hm.lt m hmm)))⟩
  · obtain ⟨ds, rfl, hl, hnd, hds⟩ := hH
    refine ⟨_, rfl, fun s' ρ' sm p S' => ?_⟩
    refine hQ ds B' ρ' s' ⟨by rw [hl]; unfold avRows; rw [List.length_map], hnd, fun j d m e1 e2 => ?_⟩ ⟨fun b o h => g _ _ (c.hB b o h), c.V.mono p, S', c.R⟩ sm g p
    have := hds j d (.str (rowS m)) e1 (by unfold avRows; rw [List.getElem?_map, e2]; rfl)
    rwa [f4_row (hm.lt m (List.mem_of_getElem? e2))] at this
end
end Mine

namespace Mine
open PySem PySem.Calls PyProof.Rows PySem.W

section
variable {prog : Program} {w : World} {h₀ : Heap}
variable {B : Base} {ρ : List Addr} {H H' H1 H2 : Hp} {s : Shared} {env : Env} {A : Around} {E : Value → Shared → Prop} {Q : Flow → Shared → Prop}

/-! if [chain for chain in chains if ...] != []: return False -/
noncomputable abbrev c5 : PySem.Expr := cmpL (stVal (lawSt 5))
noncomputable abbrev t5 : PySem.Expr := match (lcGen c5).ifs with | [t] => t | _ => e0
theorem ifs5 : (lcGen c5).ifs = [t5] := by kernel_rfl
theorem sc5_ok : scopeOk (lcScope c5) = true := by kernel_rfl
theorem cl5 : closure aeL.cells (lcScope c5).names = some [] := by kernel_rfl
theorem lk5 : lkp (vS "chain") (lcScope c5).names = some .local := by kernel_rfl
theorem cells5 (N : Nat) : cellsAt N (lcScope c5).names = [] := by kernel_rfl
noncomputable def okT (r : Option (Bool × Hp)) (own : Hp) (b : Bool) : Bool := match r with
  | some (u, H') => (u == b) && hpPre own H'
  | none => false
theorem okT_sound {r : Option (Bool × Hp)} {own : Hp} {b : Bool} (h : okT r own b = true) : ∃ T, r = some (b, own ++ T) := by
  unfold okT at h
  split at h
  · rw [Bool.and_eq_true] at h
    obtain ⟨T, e⟩ := hpPre_iff h.2
    exact ⟨T, by rw [eq_of_beq h.1, e]⟩
  · cases h
noncomputable def small5 (m : Nat) : Hp := [.ns [(vS "chain", .obj 1)], .flist (avRows (chainA m))]
theorem run5 : (m64.all fun m => okT (evL.t ⟨(lcScope c5).names, 0, []⟩ (small5 m) (cE 40 t5)) (small5 m) false) = true := by kernel_rfl
theorem it5 (a b d e ms rs qs cs : List AV) : itemsOf cx2 evL aeL (HL nm4 none none none none (P4 a b d e ++ [.list ms, .list rs, .list qs, .list cs])) (cE 40 (lcGen c5).iter) = some (cs, some 12, HL nm4 none none none none (P4 a b d e ++ [.list ms, .list rs, .list qs, .flist cs])) := by kernel_rfl

theorem tests_one {c : PySem.Expr} {Q : Bool → Shared → Prop} (h : wpAny (model prog w) A (isTrue c env (eval c env)) Q E s) : wpAny (model prog w) A (tests [c] env) Q E s := by
  unfold tests
  rw [List.forIn_cons]
  simp only [if_true]
  refine wpAny_bind (wpAny_bind (wpAny_mono h (fun x s₁ q => wpAny_pure ?_) fun _ _ e => e))
  show wpAny _ _ (forIn [] x _) _ _ _
  rw [List.forIn_nil]; exact wpAny_pure q

/-- a comprehension over lists that stand for good, of which no test holds -/
theorem comp_none (G : Gd prog w cx2 h₀) {k m : Nat} {elt iter t : PySem.Expr} {x : Str} {px : Pos} {scope : Scope} {pos : Pos} {ds : List Addr} {fr : Option Nat} {ae : AEnv}
    (c : Here h₀ B ρ ae env H s A (cx2.r + k)) (hsc : scopeOk scope = true) (hit : itemsOf cx2 (evN cx2 k) ae H (cE m iter) = some (refs ds, fr, H1)) (hcl : closure ae.cells scope.names = some []) (hx : lkp x scope.names = some .local) (hcc : ∀ N, cellsAt N scope.names = [])
    (hth : ∀ t, thaw (H1 ++ t) fr = some (H2 ++ t)) (h12 : H2.length = H1.length) (hlow : H2.all (lowO H1.length) = true) (hlen : (refs ds).length < lim) {f : Addr → List AV}
    (hds : ∀ d ∈ ds, PL B d (f d)) (run : ∀ d ∈ ds, ∃ T, (evN cx2 k).t ⟨scope.names, 0, []⟩ [.ns [(x, .obj 1)], .flist (f d)] (cE m t) = some (false, [.ns [(x, .obj 1)], .flist (f d)] ++ T)) :
    CompShows prog w A env elt iter x px [t] scope pos B ρ s H1.length (fun H' B' => H' = H2 ++ [.list []]) := by
  have K := ownL_kind hx hcc
  intro use Q E hQ fpos
  refine comp_rel G (evN_sound G k) (fun i ys B' => ys = [] ∧ i ≤ (refs ds).length ∧ ∀ d ∈ ds, PL B' d (f d)) c hsc hit hcl (K.zero _) K.ns (fun o v ys => K.wr H1 ys o v []) hth h12 hlow hlen ⟨rfl, Nat.zero_le _, hds⟩ ?_ ?_ ?_
  · rintro i ys _ ⟨rfl, hi, _⟩
    exact ⟨Nat.zero_le _, rfl⟩
  · rintro i v hv ys Bi B' ρ' env' s' E' ⟨rfl, hi, hPL⟩ g hB V S
    have hmem := List.mem_of_getElem? hv
    obtain ⟨d, hd, rfl⟩ := List.mem_map.mp hmem
    have hP := (hPL d hd).grow g
    have hloc : ρ'[H1.length + 1]? = some env'.locals := V.loc
    have hns : (H1 ++ (AObj.list [] :: ownL x (some (.gref d))))[H1.length + 1]? = some (.ns [(x, .gref d)]) := by simp [ownL]
    have hBC : B' env'.locals = none := S.own _ _ _ hloc hns rfl
    have hne : env'.locals ≠ d := fun e => by
      obtain ⟨o, ho, _⟩ := hP
      rw [← e, hBC] at ho; cases ho
    have O := S.objs _ _ _ hloc hns
    have up : ∀ {h : Heap} {as : List Addr}, as[1]? = some d → ∀ {ρ₁ : List Addr}, ObjIs ρ₁ h env'.locals (.ns [(x, .gref d)]) → ObjIs as h env'.locals (.ns [(x, .obj 1)]) := by
      rintro h as e ρ₁ ⟨F, hn, hf⟩
      refine ⟨F, hn, fun y u e' => ?_⟩
      simp only [lkp] at e'
      split at e'
      · rename_i hs
        cases e'
        obtain ⟨u', h1, h2⟩ := hf y (.gref d) (by simp only [lkp, hs])
        exact ⟨u', h1, d, e, h2⟩
      · cases e'
    have down : ∀ {h : Heap} {as : List Addr}, as[1]? = some d → ∀ {ρ₁ : List Addr}, ObjIs as h env'.locals (.ns [(x, .obj 1)]) → ObjIs ρ₁ h env'.locals (.ns [(x, .gref d)]) := by
      rintro h as e ρ₁ ⟨F, hn, hf⟩
      refine ⟨F, hn, fun y u e' => ?_⟩
      simp only [lkp] at e'
      split at e'
      · rename_i hs
        cases e'
        obtain ⟨u', h1, d', h2, h3⟩ := hf y (.obj 1) (by simp only [lkp, hs])
        rw [e] at h2; cases h2
        exact ⟨u', h1, h3⟩
      · cases e'
    have Sm : St (Base.less [env'.locals] s'.heap) [env'.locals, d] [.ns [(x, .obj 1)], .flist (f d)] s' := by
      refine small_st rfl (by simp [hne]) (fun i a o e1 e2 hm => ?_) fun i a o e1 e2 => ?_
      · match i, e1, e2 with
        | 0, e1, _ => cases e1; simp
        | 1, _, e2 => cases e2; cases hm
      · match i, e1, e2 with
        | 0, e1, e2 => cases e1; cases e2; exact up rfl O
        | 1, e1, e2 => cases e1; cases e2; exact hP.at S.kept _
    have Vm : EnvOk [env'.locals, d] ⟨scope.names, 0, []⟩ env' := ⟨V.kind, V.glob, V.bn, rfl, V.names, fun x k e => by cases e⟩
    obtain ⟨T, hrun⟩ := run d hd
    have hB0 : ∀ b o, h₀.get? b = some o → Base.less [env'.locals] s'.heap b = some o := fun b o e => less_of (fun hb => by
      rw [List.mem_singleton.mp hb] at e; rw [hB _ _ e] at hBC; cases hBC) (S.kept b o (hB b o e))
    refine tests_one (wpAny_mono ((evN_sound G k).t m t _ env' _ _ _ s' A false _ hrun hB0 Vm Sm c.R _) (fun ok s₂ q => ?_) fun _ _ e => e)
    obtain ⟨sm, as', p, rfl, S₂⟩ := q
    refine ⟨sm, S.frame (less_kept S₂) (fun b hb => by rw [List.mem_singleton.mp hb]; exact hBC) (fun i a o e1 e2 ha => ?_), fun B'' g' => ⟨rfl, ?_, fun d' h' => (hPL d' h').grow g'⟩⟩
    · rw [List.mem_singleton.mp ha] at e1 ⊢
      have hij := S.inj e1 hloc
      subst hij
      rw [hns] at e2
      cases e2
      exact down (get_pre p rfl) (S₂.objs 0 _ _ (get_pre p rfl) rfl)
    · have := (List.getElem?_eq_some_iff.mp hv).1
      omega
  · rintro ys B' g ⟨rfl, _, _⟩
    exact hQ _ B' g rfl

theorem cmpop_ne_same {H : Hp} {k l : Nat} {xs : List AV} (hk : rdList H k = some xs) (hl : rdList H l = some xs) (h : ∀ x ∈ xs, ∃ t, x = .str t) : cmpop H .NotEq (.obj k) (.obj l) = some false := by
  unfold cmpop
  simp only [aeq_same_list hk hl h, Option.map_some, Bool.not_true]
theorem refs_len (ds : List Addr) : (refs ds).length = ds.length := by unfold refs; rw [List.length_map]
theorem Chains.mode {B : Base} {ds : List Addr} {ms : List Nat} (h : Chains B ds ms) {d : Addr} (hd : d ∈ ds) : ∃ m ∈ ms, PL B d (avRows (chainA m)) := by
  obtain ⟨j, hj, e⟩ := List.mem_iff_getElem.mp hd
  have hj2 : j < ms.length := by rw [← h.1]; exact hj
  exact ⟨ms[j], List.getElem_mem _, h.2.2 j d _ (by rw [List.getElem?_eq_getElem hj, e]) (List.getElem?_eq_getElem hj2)⟩
theorem run_nil (H : Hp) (p : Pos) : evL.e aeL H (cE 40 (.List [] p)) = some (.obj H.length, H ++ [.list []]) := by kernel_rfl

theorem st5 (G : Gd prog w cx2 h₀) {ms : List Nat} (hm : Modes ms) {ds : List Addr} (hds : Chains B ds ms) {a b d e : List AV} (hI : Imm4 a b d e)
    (c : Here h₀ B ρ aeL env (HL nm4 none none none none (P4 a b d e ++ [.list (avInts ms), .list (avRow10 ms), .list (avRows ms), .list (refs ds)])) s A N2)
    (hQ : ∀ B' s', Here h₀ B' ρ aeL env (HL nm4 none none none none (P4 a b d e ++ [.list (avInts ms), .list (avRow10 ms), .list (avRows ms), .list (refs ds)])) s' A N2 → Same s s' → Grow B B' → Q .next s') :
    wpAny (model prog w) A (exec (lawSt 5) env) Q E s := by
  obtain ⟨i1, i2, i3, i4⟩ := hI
  have hlow : (HL nm4 none none none none (P4 a b d e ++ [AObj.list (avInts ms), .list (avRow10 ms), .list (avRows ms), .list (refs ds)])).all (lowO 13) = true := by
    simp only [HL, P4, List.cons_append, List.nil_append, List.all_cons, List.all_nil, low_flist i1, low_list i2, low_list i3, low_list i4, low_list (avInts_imm ms), low_list (avRow10_imm ms), low_list (avRows_imm ms), low_list (refs_imm ds), Bool.and_true]
    rfl
  classical
  let f : Addr → List AV := fun x => if h : x ∈ ds then avRows (chainA (hds.mode h).choose) else []
  have hf : ∀ x (h : x ∈ ds), f x = avRows (chainA (hds.mode h).choose) := fun x h => by simp only [f, dif_pos h]
  rw [sh5, ifs5]
  refine wpAny_If (wpAny_isTrue_Compare1 (eval_rel (comp_none (H2 := HL nm4 none none none none (P4 a b d e ++ [.list (avInts ms), .list (avRow10 ms), .list (avRows ms), .list (refs ds)])) G c sc5_ok (it5 a b d e _ _ _ _) cl5 lk5 cells5 (fun t => rfl) rfl hlow ?_ (f := f) ?_ ?_) fun H' B' g hH z s' ρ' sm p hz S' => ?_) rfl)
  · rw [refs_len, hds.1]; exact len_lim hm
  · intro x hx
    rw [hf x hx]; exact (hds.mode hx).choose_spec.2
  · intro x hx
    rw [hf x hx]
    exact okT_sound (List.all_eq_true.mp run5 _ (mem64 (hm.lt _ (hds.mode hx).choose_spec.1)))
  · subst hH
    have c' : Here h₀ B' ρ' aeL env _ s' A N2 := ⟨fun b o h => g _ _ (c.hB b o h), c.V.mono p, S', c.R⟩
    refine nxt (goE (evN_sound G KE) c' (run_nil _ _)) fun y s₂ ρ₂ sm₂ p₂ hy S₂ => ?_
    have hc : cmpop ((HL nm4 none none none none (P4 a b d e ++ [.list (avInts ms), .list (avRow10 ms), .list (avRows ms), .list (refs ds)]) ++ [.list []]) ++ [.list []]) .NotEq (.obj 13) (.obj 14) = some false := by
      exact cmpop_ne_same (xs := []) rfl rfl fun x hx => by cases hx
    refine cmpop_sound S₂ hc (hz.mono p₂) hy c.R.u20 (wpAny_truthy_bool ?_)
    simp only [Bool.false_eq_true, if_false]
    have hlen : ρ.length = (HL nm4 none none none none (P4 a b d e ++ [AObj.list (avInts ms), .list (avRow10 ms), .list (avRows ms), .list (refs ds)])).length := c.S.len
    have e1 : ∀ X Y Z : Hp, (X ++ Y ++ Z).take X.length = X := fun X Y Z => by rw [List.append_assoc, List.take_left']; rfl
    have S3 := S₂.cutTo (p.trans p₂) (by rw [hlen, e1]; exact hlow)
    rw [hlen, e1] at S3
    exact wpAny_execs_nil (hQ B' s₂ ⟨fun b o h => g _ _ (c.hB b o h), c.V, S3, c.R⟩ (sm.trans sm₂) g)
end
end Mine

namespace Mine
open PySem PySem.Calls PyProof.Rows PySem.W

section
variable {prog : Program} {w : World} {h₀ : Heap}
variable {B : Base} {ρ as as' ex : List Addr} {H H' H1 H2 Hx T : Hp} {s s' : Shared} {env : Env} {A : Around} {E : Value → Shared → Prop} {Q : Flow → Shared → Prop}
variable {nm nm' nm2 : List (Str × AV)} {r r' r2 c c' c2 sg sg' sg2 l l' l2 : Option AV} {ls : List AObj}

/-- what is known here is known there -/
noncomputable def NsImp (ρ : List Addr) (nm : List (Str × AV)) (as : List Addr) (nm' : List (Str × AV)) : Prop := ∀ y v, lkp y nm' = some v → ∃ u, lkp y nm = some u ∧ ∀ x, VR ρ u x → VR as v x
noncomputable def CImp (ρ : List Addr) (c : Option AV) (as : List Addr) (c' : Option AV) : Prop := ∀ v, c' = some v → ∃ u, c = some u ∧ ∀ x, VR ρ u x → VR as v x
theorem CImp.none {c : Option AV} : CImp ρ c as none := fun v e => by cases e
theorem CImp.imm {v : AV} (h : isObj v = false) : CImp ρ (some v) as (some v) := fun u e => by cases e; exact ⟨_, rfl, fun x hx => hx.imm h⟩
theorem CImp.some {u v : AV} (h : ∀ x, VR ρ u x → VR as v x) : CImp ρ (some u) as (some v) := fun u e => by cases e; exact ⟨_, rfl, h⟩
theorem NsImp.nil : NsImp ρ nm as [] := fun y v e => by cases e
theorem NsImp.cons {y : Str} {u v : AV} (hy : lkp y nm = some u) (h : ∀ x, VR ρ u x → VR as v x) (k : NsImp ρ nm as nm') : NsImp ρ nm as ((y, v) :: nm') := fun z t e => by
  simp only [lkp] at e
  split at e
  · rename_i hs
    cases e
    have := seq_iff.mp hs; subst this
    exact ⟨u, hy, h⟩
  · exact k z t e
theorem ObjIs.nsImp {h : Heap} {a : Addr} (k : NsImp ρ nm as nm') (x : ObjIs ρ h a (.ns nm)) : ObjIs as h a (.ns nm') := by
  obtain ⟨F, hn, hf⟩ := x
  refine ⟨F, hn, fun y v e => ?_⟩
  refine hide fun GG hGG => ?_
  obtain ⟨u, hu, q⟩ := k y v e
  obtain ⟨z, hz, hr⟩ := hf y u hu
  refine hGG ?_
  clear hGG GG
  exact ⟨z, hz, q z hr⟩
theorem ObjIs.cImp {h : Heap} {a : Addr} (k : CImp ρ c as c') (x : ObjIs ρ h a (.cell c)) : ObjIs as h a (.cell c') := by
  obtain ⟨F, hn, hf⟩ := x
  refine ⟨F, hn, fun v e => ?_⟩
  refine hide fun GG hGG => ?_
  obtain ⟨u, hu, q⟩ := k v e
  obtain ⟨z, hz, hr⟩ := hf u hu
  refine hGG ?_
  clear hGG GG
  exact ⟨z, hz, q z hr⟩

theorem take5 (S : St B ρ (HL nm r c sg l ls) s) : (ρ.take 5).length = 5 := by
  rw [List.length_take, S.len]
  simp only [HL, List.length_cons]
  omega
theorem take5_get (S : St B ρ (HL nm r c sg l ls) s) {i : Nat} (hi : i < 5) : (ρ.take 5)[i]? = ρ[i]? := List.getElem?_take_of_lt hi
theorem HL_get {i : Nat} : (HL nm r c sg l ls)[i + 5]? = ls[i]? := rfl

/-- the law's own names and cells, and things that stand fast -/
theorem law_small (S : St B ρ (HL nm r c sg l ls) s) (hnd : (ρ.take 5 ++ ex).Nodup) (hlen : ex.length = Hx.length) (hx : ∀ (i : Nat) (a : Addr) (o : AObj), ex[i]? = some a → Hx[i]? = some o → isMut o = false ∧ ObjIs (ρ.take 5 ++ ex) s.heap a o)
    (k0 : NsImp ρ nm (ρ.take 5 ++ ex) nm') (k1 : CImp ρ r (ρ.take 5 ++ ex) r') (k2 : CImp ρ c (ρ.take 5 ++ ex) c') (k3 : CImp ρ sg (ρ.take 5 ++ ex) sg') (k4 : CImp ρ l (ρ.take 5 ++ ex) l') :
    St (Base.less (ρ.take 5) s.heap) (ρ.take 5 ++ ex) (HL nm' r' c' sg' l' Hx) s := by
  have h5 := take5 S
  have g : ∀ {i : Nat} {a : Addr}, i < 5 → (ρ.take 5 ++ ex)[i]? = some a → ρ[i]? = some a := fun {i a} hi e => by
    rw [List.getElem?_append_left (by omega), take5_get S hi] at e; exact e
  refine small_st (by rw [List.length_append, h5, hlen]; simp only [HL, List.length_cons]; omega) hnd (fun i a o e1 e2 hm => ?_) fun i a o e1 e2 => ?_
  · match i, e1, e2 with
    | 0, e1, e2 => exact List.mem_of_getElem? ((take5_get S (by omega)).trans (g (by omega) e1))
    | 1, e1, e2 => exact List.mem_of_getElem? ((take5_get S (by omega)).trans (g (by omega) e1))
    | 2, e1, e2 => exact List.mem_of_getElem? ((take5_get S (by omega)).trans (g (by omega) e1))
    | 3, e1, e2 => exact List.mem_of_getElem? ((take5_get S (by omega)).trans (g (by omega) e1))
    | 4, e1, e2 => exact List.mem_of_getElem? ((take5_get S (by omega)).trans (g (by omega) e1))
    | i + 5, e1, e2 =>
      rw [HL_get] at e2
      rw [List.getElem?_append_right (by omega), h5, Nat.add_sub_cancel] at e1
      rw [(hx i a o e1 e2).1] at hm; cases hm
  · match i, e1, e2 with
    | 0, e1, e2 => cases e2; exact (S.objs 0 a _ (g (by omega) e1) rfl).nsImp k0
    | 1, e1, e2 => cases e2; exact (S.objs 1 a _ (g (by omega) e1) rfl).cImp k1
    | 2, e1, e2 => cases e2; exact (S.objs 2 a _ (g (by omega) e1) rfl).cImp k2
    | 3, e1, e2 => cases e2; exact (S.objs 3 a _ (g (by omega) e1) rfl).cImp k3
    | 4, e1, e2 => cases e2; exact (S.objs 4 a _ (g (by omega) e1) rfl).cImp k4
    | i + 5, e1, e2 =>
      rw [HL_get] at e2
      rw [List.getElem?_append_right (by omega), h5, Nat.add_sub_cancel] at e1
      exact (hx i a o e1 e2).2
theorem take5_none (S : St B ρ (HL nm r c sg l ls) s) : ∀ b ∈ ρ.take 5, B b = none := by
  intro b hb
  obtain ⟨i, hi, e⟩ := List.mem_iff_getElem.mp hb
  rw [take5 S] at hi
  have e1 : (ρ.take 5)[i]? = some b := by rw [List.getElem?_eq_getElem (by rw [take5 S]; exact hi), e]
  rw [take5_get S hi] at e1
  match i, hi, e1 with
  | 0, _, e1 => exact S.own 0 b _ e1 rfl rfl
  | 1, _, e1 => exact S.own 1 b _ e1 rfl rfl
  | 2, _, e1 => exact S.own 2 b _ e1 rfl rfl
  | 3, _, e1 => exact S.own 3 b _ e1 rfl rfl
  | 4, _, e1 => exact S.own 4 b _ e1 rfl rfl
theorem law_env (S : St B ρ (HL nm r c sg l ls) s) (hloc : ρ[0]? = some env.locals) (V : EnvOk ρ aeL env) (hc : ∀ x k, lkp x aeL.cells = some k → k < 5) : EnvOk (ρ.take 5 ++ ex) aeL env :=
  ⟨V.kind, V.glob, V.bn, by
    rw [List.getElem?_append_left (by rw [take5 S]; decide), take5_get S (by decide)]; exact hloc, V.names, fun x k e => by
    obtain ⟨a, h1, h2⟩ := V.cells x k e
    have := hc x k e
    exact ⟨a, h1, by rw [List.getElem?_append_left (by rw [take5 S]; exact this), take5_get S this]; exact h2⟩⟩
theorem law_base (S : St B ρ (HL nm r c sg l ls) s) (hB : ∀ b o, h₀.get? b = some o → B b = some o) : ∀ b o, h₀.get? b = some o → Base.less (ρ.take 5) s.heap b = some o := fun b o e =>
  less_of (fun hb => by have := take5_none S b hb; rw [hB b o e] at this; cases this) (S.kept b o (hB b o e))
/-- back from the small heap -/
theorem law_back (S : St B ρ (HL nm r c sg l ls) s) (p : ρ.take 5 ++ ex <+: as') (S' : St (Base.less (ρ.take 5) s.heap) as' (HL nm' r' c' sg' l' T) s')
    (k0 : NsImp as' nm' ρ nm2) (k1 : CImp as' r' ρ r2) (k2 : CImp as' c' ρ c2) (k3 : CImp as' sg' ρ sg2) (k4 : CImp as' l' ρ l2) : St B ρ (HL nm2 r2 c2 sg2 l2 ls) s' := by
  have h5 := take5 S
  have g : ∀ {i : Nat} {a : Addr}, i < 5 → ρ[i]? = some a → as'[i]? = some a := fun {i a} hi e =>
    get_pre p (by rw [List.getElem?_append_left (by omega), take5_get S hi]; exact e)
  refine ⟨fun b o e => less_kept S' b o (fun hb => by rw [take5_none S b hb] at e; cases e) (S.kept b o e), S.len, S.nodup, fun i a o e1 e2 hm => ?_, fun i a o e1 e2 => ?_⟩
  · match i, e1, e2 with
    | 0, e1, e2 => exact S.own 0 a _ e1 rfl rfl
    | 1, e1, e2 => exact S.own 1 a _ e1 rfl rfl
    | 2, e1, e2 => exact S.own 2 a _ e1 rfl rfl
    | 3, e1, e2 => exact S.own 3 a _ e1 rfl rfl
    | 4, e1, e2 => exact S.own 4 a _ e1 rfl rfl
    | i + 5, e1, e2 => exact S.own (i + 5) a o e1 e2 hm
  · match i, e1, e2 with
    | 0, e1, e2 => cases e2; exact (S'.objs 0 a _ (g (by omega) e1) rfl).nsImp k0
    | 1, e1, e2 => cases e2; exact (S'.objs 1 a _ (g (by omega) e1) rfl).cImp k1
    | 2, e1, e2 => cases e2; exact (S'.objs 2 a _ (g (by omega) e1) rfl).cImp k2
    | 3, e1, e2 => cases e2; exact (S'.objs 3 a _ (g (by omega) e1) rfl).cImp k3
    | 4, e1, e2 => cases e2; exact (S'.objs 4 a _ (g (by omega) e1) rfl).cImp k4
    | i + 5, e1, e2 =>
      refine (S.objs (i + 5) a o e1 e2).mono (List.prefix_refl _) fun ob e => less_kept S' a ob (fun hb => ?_) e
      obtain ⟨j, hj, e'⟩ := List.mem_iff_getElem.mp hb
      have e3 : (ρ.take 5)[j]? = some a := by rw [List.getElem?_eq_getElem hj, e']
      rw [h5] at hj
      rw [take5_get S hj] at e3
      have := S.inj e1 e3
      omega
end
end Mine

namespace Mine
open PySem PySem.Calls PyProof.Rows PySem.W

/-! for row in rows: single = ..; cores.append([single, [..]]) -/
noncomputable def b8a : Stmt := match stBody (lawSt 7) with | [x, _] => x | _ => .Pass p0
noncomputable def b8b : Stmt := match stBody (lawSt 7) with | [_, x] => x | _ => .Pass p0
noncomputable def callArg (e : PySem.Expr) : PySem.Expr := match call? e with
  | some (_, as, _) => (match one? as with | some a => a | none => e0)
  | none => e0
noncomputable def callFn (e : PySem.Expr) : PySem.Expr := match call? e with
  | some (f, _, _) => f
  | none => e0
noncomputable def attrOf (e : PySem.Expr) : PySem.Expr := match attr? e with
  | some (o, _, _) => o
  | none => e0
noncomputable def attrPos (e : PySem.Expr) : Pos := e.pos
theorem sh7b : stBody (lawSt 7) = [b8a, b8b] := by kernel_rfl
theorem sh8b : b8b = .Expr (.Call (.Attribute (.Name (vS "cores") (exPos (attrOf (callFn (stVal b8b))))) (vS "append") (attrPos (callFn (stVal b8b)))) [callArg (stVal b8b)] [] (exPos (stVal b8b))) (stPos b8b) := by kernel_rfl
theorem pos8 : Nat.beq (attrPos (callFn (stVal b8b))).endLine (exPos (stVal b8b)).line = true := by kernel_rfl
noncomputable def lettersA (m : Nat) : List Nat := [0, 1, 2, 3, 4, 5].filter fun p => bitOn m p && !((singleA m).any (Nat.beq p))
noncomputable abbrev nmG (aR aC : Addr) : List (Str × AV) := [(vS "rows", .gref aR), (vS "chains", .gref aC)]
noncomputable abbrev S8 (aR aC aK m : Nat) (sg : Option AV) (T : Hp) : Hp := HL (nmG aR aC) (some (.str (rowS m))) (some (.gref aK)) sg none T
noncomputable def AllN (P : Nat → Prop) : Nat → Prop
  | 0 => True
  | n + 1 => AllN P n ∧ P n
theorem allN {P : Nat → Prop} : ∀ {n : Nat}, AllN P n → ∀ m, m < n → P m
  | 0, _, m, h => absurd h (Nat.not_lt_zero m)
  | n + 1, ⟨h1, h2⟩, m, h => by
    rcases Nat.lt_succ_iff_lt_or_eq.mp h with h | h
    · exact allN h1 m h
    · rw [h]; exact h2
theorem allN_succ {P : Nat → Prop} {n : Nat} (h1 : AllN P n) (h2 : P n) : AllN P (n + 1) := ⟨h1, h2⟩
noncomputable def P8a (m : Nat) : Prop := ∀ aR aC aK : Nat, stepS cx2 evL aeL (S8 aR aC aK m none []) (cS 40 40 b8a) = some (.next, S8 aR aC aK m (some (.obj 5)) [.list (avInts (singleA m))])
noncomputable def P8b (m : Nat) : Prop := ∀ aR aC aK : Nat, evL.e aeL (S8 aR aC aK m (some (.obj 5)) [.list (avInts (singleA m))]) (cE 40 (callArg (stVal b8b))) = some (.obj 7, S8 aR aC aK m (some (.obj 5)) [.list (avInts (singleA m)), .list (avInts (lettersA m)), .list [.obj 5, .obj 6]])
theorem P8a_0 : P8a 0 := fun aR aC aK => by kernel_rfl
theorem P8a_1 : P8a 1 := fun aR aC aK => by kernel_rfl
theorem P8a_2 : P8a 2 := fun aR aC aK => by kernel_rfl
theorem P8a_3 : P8a 3 := fun aR aC aK => by kernel_rfl
theorem P8a_4 : P8a 4 := fun aR aC aK => by kernel_rfl
theorem P8a_5 : P8a 5 := fun aR aC aK => by kernel_rfl
theorem P8a_6 : P8a 6 := fun aR aC aK => by kernel_rfl
theorem P8a_7 : P8a 7 := fun aR aC aK => by kernel_rfl
theorem P8a_8 : P8a 8 := fun aR aC aK => by kernel_rfl
theorem P8a_9 : P8a 9 := fun aR aC aK => by kernel_rfl
theorem P8a_10 : P8a 10 := fun aR aC aK => by kernel_rfl
theorem P8a_11 : P8a 11 := fun aR aC aK => by kernel_rfl
theorem P8a_12 : P8a 12 := fun aR aC aK => by kernel_rfl
theorem P8a_13 : P8a 13 := fun aR aC aK => by kernel_rfl
theorem P8a_14 : P8a 14 := fun aR aC aK => by kernel_rfl
theorem P8a_15 : P8a 15 := fun aR aC aK => by kernel_rfl
theorem P8a_16 : P8a 16 := fun aR aC aK => by kernel_rfl
theorem P8a_17 : P8a 17 := fun aR aC aK => by kernel_rfl
theorem P8a_18 : P8a 18 := fun aR aC aK => by kernel_rfl
theorem P8a_19 : P8a 19 := fun aR aC aK => by kernel_rfl
theorem P8a_20 : P8a 20 := fun aR aC aK => by kernel_rfl
theorem P8a_21 : P8a 21 := fun aR aC aK => by kernel_rfl
theorem P8a_22 : P8a 22 := fun aR aC aK => by kernel_rfl
theorem P8a_23 : P8a 23 := fun aR aC aK => by kernel_rfl
theorem P8a_24 : P8a 24 := fun aR aC aK => by kernel_rfl
theorem P8a_25 : P8a 25 := fun aR aC aK => by kernel_rfl
theorem P8a_26 : P8a 26 := fun aR aC aK => by kernel_rfl
theorem P8a_27 : P8a 27 := fun aR aC aK => by kernel_rfl
theorem P8a_28 : P8a 28 := fun aR aC aK => by kernel_rfl
theorem P8a_29 : P8a 29 := fun aR aC aK => by kernel_rfl
theorem P8a_30 : P8a 30 := fun aR aC aK => by kernel_rfl
theorem P8a_31 : P8a 31 := fun aR aC aK => by kernel_rfl
theorem P8a_32 : P8a 32 := fun aR aC aK => by kernel_rfl
theorem P8a_33 : P8a 33 := fun aR aC aK => by kernel_rfl
theorem P8a_34 : P8a 34 := fun aR aC aK => by kernel_rfl
theorem P8a_35 : P8a 35 := fun aR aC aK => by kernel_rfl
theorem P8a_36 : P8a 36 := fun aR aC aK => by kernel_rfl
theorem P8a_37 : P8a 37 := fun aR aC aK => by kernel_rfl
theorem P8a_38 : P8a 38 := fun aR aC aK => by kernel_rfl
theorem P8a_39 : P8a 39 := fun aR aC aK => by kernel_rfl
theorem P8a_40 : P8a 40 := fun aR aC aK => by kernel_rfl
theorem P8a_41 : P8a 41 := fun aR aC aK => by kernel_rfl
theorem P8a_42 : P8a 42 := fun aR aC aK => by kernel_rfl
theorem P8a_43 : P8a 43 := fun aR aC aK => by kernel_rfl
theorem P8a_44 : P8a 44 := fun aR aC aK => by kernel_rfl
theorem P8a_45 : P8a 45 := fun aR aC aK => by kernel_rfl
theorem P8a_46 : P8a 46 := fun aR aC aK => by kernel_rfl
theorem P8a_47 : P8a 47 := fun aR aC aK => by kernel_rfl
theorem P8a_48 : P8a 48 := fun aR aC aK => by kernel_rfl
theorem P8a_49 : P8a 49 := fun aR aC aK => by kernel_rfl
theorem P8a_50 : P8a 50 := fun aR aC aK => by kernel_rfl
theorem P8a_51 : P8a 51 := fun aR aC aK => by kernel_rfl
theorem P8a_52 : P8a 52 := fun aR aC aK => by kernel_rfl
theorem P8a_53 : P8a 53 := fun aR aC aK => by kernel_rfl
theorem P8a_54 : P8a 54 := fun aR aC aK => by kernel_rfl
theorem P8a_55 : P8a 55 := fun aR aC aK => by kernel_rfl
theorem P8a_56 : P8a 56 := fun aR aC aK => by kernel_rfl
theorem P8a_57 : P8a 57 := fun aR aC aK => by kernel_rfl
theorem P8a_58 : P8a 58 := fun aR aC aK => by kernel_rfl
theorem P8a_59 : P8a 59 := fun aR aC aK => by kernel_rfl
theorem P8a_60 : P8a 60 := fun aR aC aK => by kernel_rfl
theorem P8a_61 : P8a 61 := fun aR aC aK => by kernel_rfl
theorem P8a_62 : P8a 62 := fun aR aC aK => by kernel_rfl
theorem P8a_63 : P8a 63 := fun aR aC aK => by kernel_rfl
theorem runP8a : AllN P8a 64 := allN_succ (allN_succ (allN_succ (allN_succ (allN_succ (allN_succ (allN_succ (allN_succ (allN_succ (allN_succ (allN_succ (allN_succ (allN_succ (allN_succ (allN_succ (allN_succ (allN_succ (allN_succ (allN_succ (allN_succ (allN_succ (allN_succ (allN_succ (allN_succ (allN_succ (allN_succ (allN_succ (allN_succ (allN_succ (allN_succ (allN_succ (allN_succ (allN_succ (allN_succ (allN_succ (allN_succ (allN_succ (allN_succ (allN_succ (allN_succ (allN_succ (allN_succ (allN_succ (allN_succ (allN_succ (allN_succ (allN_succ (allN_succ (allN_succ (allN_succ (allN_succ (allN_succ (allN_succ (allN_succ (allN_succ (allN_succ (allN_succ (allN_succ (allN_succ (allN_succ (allN_succ (allN_succ (allN_succ (allN_succ (n := 0) trivial P8a_0) P8a_1) P8a_2) P8a_3) P8a_4) P8a_5) P8a_6) P8a_7) P8a_8) P8a_9) P8a_10) P8a_11) P8a_12) P8a_13) P8a_14) P8a_15) P8a_16) P8a_17) P8a_18) P8a_19) P8a_20) P8a_21) P8a_22) P8a_23) P8a_24) P8a_25) P8a_26) P8a_27) P8a_28) P8a_29) P8a_30) P8a_31) P8a_32) P8a_33) P8a_34) P8a_35) P8a_36) P8a_37) P8a_38) P8a_39) P8a_40) P8a_41) P8a_42) P8a_43) P8a_44) P8a_45) P8a_46) P8a_47) P8a_48) P8a_49) P8a_50) P8a_51) P8a_52) P8a_53) P8a_54) P8a_55) P8a_56) P8a_57) P8a_58) P8a_59) P8a_60) P8a_61) P8a_62) P8a_63
theorem P8b_0 : P8b 0 := fun aR aC aK => by kernel_rfl
theorem P8b_1 : P8b 1 := fun aR aC aK => by kernel_rfl
theorem P8b_2 : P8b 2 := fun aR aC aK => by kernel_rfl
theorem P8b_3 : P8b 3 := fun aR aC aK => by kernel_rfl
theorem P8b_4 : P8b 4 := fun aR aC aK => by kernel_rfl
theorem P8b_5 : P8b 5 := fun aR aC aK => by kernel_rfl
theorem P8b_6 : P8b 6 := fun aR aC aK => by kernel_rfl
theorem P8b_7 : P8b 7 := fun aR aC aK => by kernel_rfl
theorem P8b_8 : P8b 8 := fun aR aC aK => by kernel_rfl
theorem P8b_9 : P8b 9 := fun aR aC aK => by kernel_rfl
theorem P8b_10 : P8b 10 := fun aR aC aK => by kernel_rfl
theorem P8b_11 : P8b 11 := fun aR aC aK => by kernel_rfl
theorem P8b_12 : P8b 12 := fun aR aC aK => by kernel_rfl
theorem P8b_13 : P8b 13 := fun aR aC aK => by kernel_rfl
theorem P8b_14 : P8b 14 := fun aR aC aK => by kernel_rfl
theorem P8b_15 : P8b 15 := fun aR aC aK => by kernel_rfl
theorem P8b_16 : P8b 16 := fun aR aC aK => by kernel_rfl
theorem P8b_17 : P8b 17 := fun aR aC aK => by kernel_rfl
theorem P8b_18 : P8b 18 := fun aR aC aK => by kernel_rfl
theorem P8b_19 : P8b 19 := fun aR aC aK => by kernel_rfl
theorem P8b_20 : P8b 20 := fun aR aC aK => by kernel_rfl
theorem P8b_21 : P8b 21 := fun aR aC aK => by kernel_rfl
theorem P8b_22 : P8b 22 := fun aR aC aK => by kernel_rfl
theorem P8b_23 : P8b 23 := fun aR aC aK => by kernel_rfl
theorem P8b_24 : P8b 24 := fun aR aC aK => by kernel_rfl
theorem P8b_25 : P8b 25 := fun aR aC aK => by kernel_rfl
theorem P8b_26 : P8b 26 := fun aR aC aK => by kernel_rfl
theorem P8b_27 : P8b 27 := fun aR aC aK => by kernel_rfl
theorem P8b_28 : P8b 28 := fun aR aC aK => by kernel_rfl
theorem P8b_29 : P8b 29 := fun aR aC aK => by kernel_rfl
theorem P8b_30 : P8b 30 := fun aR aC aK => by kernel_rfl
theorem P8b_31 : P8b 31 := fun aR aC aK => by kernel_rfl
theorem P8b_32 : P8b 32 := fun aR aC aK => by kernel_rfl
theorem P8b_33 : P8b 33 := fun aR aC aK => by kernel_rfl
theorem P8b_34 : P8b 34 := fun aR aC aK => by kernel_rfl
theorem P8b_35 : P8b 35 := fun aR aC aK => by kernel_rfl
theorem P8b_36 : P8b 36 := fun aR aC aK => by kernel_rfl
theorem P8b_37 : P8b 37 := fun aR aC aK => by kernel_rfl
theorem P8b_38 : P8b 38 := fun aR aC aK => by kernel_rfl
theorem P8b_39 : P8b 39 := fun aR aC aK => by kernel_rfl
theorem P8b_40 : P8b 40 := fun aR aC aK => by kernel_rfl
theorem P8b_41 : P8b 41 := fun aR aC aK => by kernel_rfl
theorem P8b_42 : P8b 42 := fun aR aC aK => by kernel_rfl
theorem P8b_43 : P8b 43 := fun aR aC aK => by kernel_rfl
theorem P8b_44 : P8b 44 := fun aR aC aK => by kernel_rfl
theorem P8b_45 : P8b 45 := fun aR aC aK => by kernel_rfl
theorem P8b_46 : P8b 46 := fun aR aC aK => by kernel_rfl
theorem P8b_47 : P8b 47 := fun aR aC aK => by kernel_rfl
theorem P8b_48 : P8b 48 := fun aR aC aK => by kernel_rfl
theorem P8b_49 : P8b 49 := fun aR aC aK => by kernel_rfl
theorem P8b_50 : P8b 50 := fun aR aC aK => by kernel_rfl
theorem P8b_51 : P8b 51 := fun aR aC aK => by kernel_rfl
theorem P8b_52 : P8b 52 := fun aR aC aK => by kernel_rfl
theorem P8b_53 : P8b 53 := fun aR aC aK => by kernel_rfl
theorem P8b_54 : P8b 54 := fun aR aC aK => by kernel_rfl
theorem P8b_55 : P8b 55 := fun aR aC aK => by kernel_rfl
theorem P8b_56 : P8b 56 := fun aR aC aK => by kernel_rfl
theorem P8b_57 : P8b 57 := fun aR aC aK => by kernel_rfl
theorem P8b_58 : P8b 58 := fun aR aC aK => by kernel_rfl
theorem P8b_59 : P8b 59 := fun aR aC aK => by kernel_rfl
theorem P8b_60 : P8b 60 := fun aR aC aK => by kernel_rfl
theorem P8b_61 : P8b 61 := fun aR aC aK => by kernel_rfl
theorem P8b_62 : P8b 62 := fun aR aC aK => by kernel_rfl
theorem P8b_63 : P8b 63 := fun aR aC aK => by kernel_rfl
theorem runP8b : AllN P8b 64 := allN_succ (allN_succ (allN_succ (allN_succ (allN_succ (allN_succ (allN_succ (allN_succ (allN_succ (allN_succ (allN_succ (allN_succ (allN_succ (allN_succ (allN_succ (allN_succ (allN_succ (allN_succ (allN_succ (allN_succ (allN_succ (allN_succ (allN_succ (allN_succ (allN_succ (allN_succ (allN_succ (allN_succ (allN_succ (allN_succ (allN_succ (allN_succ (allN_succ (allN_succ (allN_succ (allN_succ (allN_succ (allN_succ (allN_succ (allN_succ (allN_succ (allN_succ (allN_succ (allN_succ (allN_succ (allN_succ (allN_succ (allN_succ (allN_succ (allN_succ (allN_succ (allN_succ (allN_succ (allN_succ (allN_succ (allN_succ (allN_succ (allN_succ (allN_succ (allN_succ (allN_succ (allN_succ (allN_succ (allN_succ (n := 0) trivial P8b_0) P8b_1) P8b_2) P8b_3) P8b_4) P8b_5) P8b_6) P8b_7) P8b_8) P8b_9) P8b_10) P8b_11) P8b_12) P8b_13) P8b_14) P8b_15) P8b_16) P8b_17) P8b_18) P8b_19) P8b_20) P8b_21) P8b_22) P8b_23) P8b_24) P8b_25) P8b_26) P8b_27) P8b_28) P8b_29) P8b_30) P8b_31) P8b_32) P8b_33) P8b_34) P8b_35) P8b_36) P8b_37) P8b_38) P8b_39) P8b_40) P8b_41) P8b_42) P8b_43) P8b_44) P8b_45) P8b_46) P8b_47) P8b_48) P8b_49) P8b_50) P8b_51) P8b_52) P8b_53) P8b_54) P8b_55) P8b_56) P8b_57) P8b_58) P8b_59) P8b_60) P8b_61) P8b_62) P8b_63
end Mine

namespace Mine
open PySem PySem.Calls PyProof.Rows PySem.W

section
variable {prog : Program} {w : World} {h₀ : Heap}
variable {B B' : Base} {ρ as as' ex : List Addr} {H H' H1 H2 Hx T : Hp} {s s' : Shared} {env : Env} {A : Around} {E : Value → Shared → Prop} {Q : Flow → Shared → Prop}
variable {nm nm' nm2 : List (Str × AV)} {r r' r2 c c' c2 sg sg' sg2 l l' l2 : Option AV} {ls : List AObj}

/-- less is known of the law's names -/
theorem HL_weaken (S : St B ρ (HL nm r c sg l ls) s) (k0 : NsImp ρ nm ρ nm2) (k1 : CImp ρ r ρ r2) (k2 : CImp ρ c ρ c2) (k3 : CImp ρ sg ρ sg2) (k4 : CImp ρ l ρ l2) : St B ρ (HL nm2 r2 c2 sg2 l2 ls) s := by
  refine ⟨S.kept, S.len, S.nodup, fun i a o e1 e2 hm => ?_, fun i a o e1 e2 => ?_⟩
  · match i, e1, e2 with
    | 0, e1, e2 => exact S.own 0 a _ e1 rfl rfl
    | 1, e1, e2 => exact S.own 1 a _ e1 rfl rfl
    | 2, e1, e2 => exact S.own 2 a _ e1 rfl rfl
    | 3, e1, e2 => exact S.own 3 a _ e1 rfl rfl
    | 4, e1, e2 => exact S.own 4 a _ e1 rfl rfl
    | i + 5, e1, e2 => exact S.own (i + 5) a o e1 e2 hm
  · match i, e1, e2 with
    | 0, e1, e2 => cases e2; exact (S.objs 0 a _ e1 rfl).nsImp k0
    | 1, e1, e2 => cases e2; exact (S.objs 1 a _ e1 rfl).cImp k1
    | 2, e1, e2 => cases e2; exact (S.objs 2 a _ e1 rfl).cImp k2
    | 3, e1, e2 => cases e2; exact (S.objs 3 a _ e1 rfl).cImp k3
    | 4, e1, e2 => cases e2; exact (S.objs 4 a _ e1 rfl).cImp k4
    | i + 5, e1, e2 => exact S.objs (i + 5) a o e1 e2

/-! cores = [] -/
theorem sh6 : lawSt 6 = .Assign [.Name (vS "cores") (exPos (stTgt (lawSt 6)))] (.List [] (exPos (stVal (lawSt 6)))) (stPos (lawSt 6)) := by kernel_rfl
theorem run6 (a b d e ms rs qs cs : List AV) : stepS cx2 evL aeL (HL nm4 none none none none (P4 a b d e ++ [.list ms, .list rs, .list qs, .list cs])) (cAsg (cE 40) (.List [] (exPos (stVal (lawSt 6)))) (.Name (vS "cores") (exPos (stTgt (lawSt 6))))) =
    some (.next, HL nm4 none (some (.obj 13)) none none (P4 a b d e ++ [.list ms, .list rs, .list qs, .list cs, .list []])) := by kernel_rfl
noncomputable abbrev nm5 : List (Str × AV) := [(vS "rows", .obj 11), (vS "chains", .obj 12)]
theorem st6 (G : Gd prog w cx2 h₀) {a b d e ms rs qs cs : List AV} (c : Here h₀ B ρ aeL env (HL nm4 none none none none (P4 a b d e ++ [.list ms, .list rs, .list qs, .list cs])) s A N2)
    (hQ : ∀ ρ' s', Here h₀ B ρ' aeL env (HL nm5 none (some (.obj 13)) none none (P4 a b d e ++ [.list ms, .list rs, .list qs, .list cs, .list []])) s' A N2 → Same s s' → Q .next s') :
    wpAny (model prog w) A (exec (lawSt 6) env) Q E s := by
  rw [sh6]
  refine nxt (assign_sound G (evN_sound G KE) c (run6 a b d e ms rs qs cs)) fun f s' ρ' sm p hf S' => ?_
  cases hf
  refine hQ ρ' s' ⟨c.hB, c.V.mono p, HL_weaken S' ?_ CImp.none (fun v e => ⟨v, e, fun x h => h⟩) CImp.none CImp.none, c.R⟩ sm
  exact NsImp.cons (u := .obj 11) rfl (fun x h => h) (NsImp.cons (u := .obj 12) rfl (fun x h => h) NsImp.nil)

/-! the loop -/
noncomputable abbrev Tri := Addr × Addr × Addr
noncomputable def flat (ts : List Tri) : List Addr := ts.flatMap fun t => [t.1, t.2.1, t.2.2]
structure Cores (B : Base) (ds : List Addr) (ts : List Tri) (ms : List Nat) : Prop where
  len : ts.length = ms.length
  nodup : (ds ++ flat ts).Nodup
  pl : ∀ (j : Nat) (t : Tri) (m : Nat), ts[j]? = some t → ms[j]? = some m → PL B t.1 [.gref t.2.1, .gref t.2.2] ∧ PL B t.2.1 (avInts (singleA m)) ∧ PL B t.2.2 (avInts (lettersA m))
theorem Cores.grow {ds : List Addr} {ts : List Tri} {ms : List Nat} (h : Cores B ds ts ms) (g : Grow B B') : Cores B' ds ts ms :=
  ⟨h.len, h.nodup, fun j t m e1 e2 => let ⟨x, y, z⟩ := h.pl j t m e1 e2; ⟨x.grow g, y.grow g, z.grow g⟩⟩
theorem flat_app (ts us : List Tri) : flat (ts ++ us) = flat ts ++ flat us := by unfold flat; rw [List.flatMap_append]
theorem flat_mem {ts : List Tri} {a : Addr} (h : a ∈ flat ts) : ∃ t ∈ ts, a = t.1 ∨ a = t.2.1 ∨ a = t.2.2 := by
  unfold flat at h
  obtain ⟨t, ht, ha⟩ := List.mem_flatMap.mp h
  simp at ha
  exact ⟨t, ht, ha⟩
/-- all of these stand for good -/
theorem Cores.stand {ds : List Addr} {ts : List Tri} {ms0 ms : List Nat} (h : Cores B ds ts ms) (hd : Chains B ds ms0) {a : Addr} (ha : a ∈ ds ++ flat ts) : ∃ o, B a = some o := by
  rcases List.mem_append.mp ha with ha | ha
  · obtain ⟨m, _, o, e, _⟩ := hd.mode ha; exact ⟨o, e⟩
  · refine hide fun GG hGG => ?_
    obtain ⟨t, ht, q⟩ := flat_mem ha
    obtain ⟨j, hj, e⟩ := List.mem_iff_getElem.mp ht
    have hj2 : j < ms.length := by rw [← h.len]; exact hj
    obtain ⟨⟨o1, x, _⟩, ⟨o2, y, _⟩, ⟨o3, z, _⟩⟩ := h.pl j t _ (by rw [List.getElem?_eq_getElem hj, e]) (List.getElem?_eq_getElem hj2)
    refine hGG ?_
    clear hGG GG
    rcases q with rfl | rfl | rfl
    · exact ⟨o1, x⟩
    · exact ⟨o2, y⟩
    · exact ⟨o3, z⟩
noncomputable abbrev L8 (a b d e : List AV) (ms : List Nat) (ds : List Addr) (ts : List Tri) : List AObj := P4 a b d e ++ [.list (avInts ms), .list (avRow10 ms), .flist (avRows ms), .list (refs ds), .list (refs (ts.map (·.1)))]
noncomputable abbrev L9 (a b d e : List AV) (ms : List Nat) (ds : List Addr) (ts : List Tri) : List AObj := P4 a b d e ++ [.list (avInts ms), .list (avRow10 ms), .list (avRows ms), .list (refs ds), .list (refs (ts.map (·.1)))]
theorem it7 (a b d e ms rs qs cs ks : List AV) : itemsOf cx2 evL aeL (HL nm5 none (some (.obj 13)) none none (P4 a b d e ++ [.list ms, .list rs, .list qs, .list cs, .list ks])) (cE 40 (stVal (lawSt 7))) = some (qs, some 11, HL nm5 none (some (.obj 13)) none none (P4 a b d e ++ [.list ms, .list rs, .flist qs, .list cs, .list ks])) := by kernel_rfl
theorem cellsLt : ∀ x k, lkp x aeL.cells = some k → k < 5 := by
  have e : aeL.cells = [(vS "row", 1), (vS "cores", 2), (vS "single", 3), (vS "letters", 4)] := by kernel_rfl
  intro x k h
  rw [e] at h
  simp only [lkp] at h
  repeat (first | (split at h; (· cases h; decide)) | cases h)
theorem starArg : isStar (cE 40 (callArg (stVal b8b))) = false := by kernel_rfl

/-- a new list behind a run on a small heap -/
theorem small_list {ms as2 : List Addr} {s₁ s₃ : Shared} (S : St (Base.less ms s₁.heap) as2 H s₃) {j : Nat} {xs : List AV} (hj : H[j]? = some (.list xs)) (hn : ∀ d, as2[j]? = some d → d ∉ ms) :
    ∃ d o vs, as2[j]? = some d ∧ s₁.heap.get? d = none ∧ s₃.heap.get? d = some o ∧ xs.length ≤ lim ∧ (∃ n, o = { cls := .type "list", data := .seq (List.toArray vs) n }) ∧ VRs as2 xs vs := by
  refine hide fun GG hGG => ?_
  obtain ⟨d, hd, z, vs, ⟨n, e⟩, hv⟩ := S.addr hj
  refine hGG ?_
  clear hGG GG
  exact ⟨d, _, vs, hd, less_new S hd hj rfl (hn d hd), e, z, ⟨n, rfl⟩, hv⟩
theorem wr_row (v : AV) (r c sg l : Option AV) (nm : List (Str × AV)) (ls : List AObj) : wrVar aeL (HL nm r c sg l ls) (vS "row") v = some (HL nm (some v) c sg l ls) := by kernel_rfl
theorem rd_cores (aR aC aK m : Nat) (sg : Option AV) (T : Hp) : rdVar cx2 aeL (S8 aR aC aK m sg T) (vS "cores") = some (.gref aK) := by kernel_rfl

noncomputable def Inv8 (a b d e : List AV) (ms : List Nat) (ds : List Addr) (i : Nat) (Hi : Hp) (Bi : Base) : Prop :=
  ∃ ts, Hi = HL nm5 none (some (.obj 13)) none none (L8 a b d e ms ds ts) ∧ Cores Bi ds ts (ms.take i) ∧ Chains Bi ds ms ∧ i ≤ ms.length

theorem turn8 (G : Gd prog w cx2 h₀) {a b d e : List AV} {ms : List Nat} {ds : List Addr} (hm : Modes ms) {i : Nat} {v : AV} (hv : (avRows ms)[i]? = some v) {Hi : Hp} {Bi : Base} {u : Value} {p : Pos}
    (inv : Inv8 a b d e ms ds i Hi Bi) (g : Grow Bi B') (hB : ∀ b o, h₀.get? b = some o → B' b = some o) (V : EnvOk ρ aeL env) (S : St B' ρ Hi s') (hu : VR ρ v u) (hA : Rm A N2) :
    wpAny (model prog w) A (assign (.Name (vS "row") p) env u) (fun _ s₂ => wpAny (model prog w) A (execs (stBody (lawSt 7)) env) (BodyOut (Inv8 a b d e ms ds) i Bi B' ρ s') E s₂) E s' := by
  refine hide fun GG hGG => ?_
  obtain ⟨ts, rfl, hC, hd, hi⟩ := inv
  obtain ⟨m, him, rfl⟩ : ∃ m, ms[i]? = some m ∧ v = .str (rowS m) := by
    unfold avRows at hv
    rw [List.getElem?_map] at hv
    cases h : ms[i]? with
    | none => rw [h] at hv; cases hv
    | some m => rw [h] at hv; exact ⟨m, rfl, (Option.some.inj hv).symm⟩
  refine hGG ?_
  clear hGG GG
  have hm64 := hm.lt m (List.mem_of_getElem? him)
  rw [sh7b]
  generalize hQQ : BodyOut (Inv8 a b d e ms ds) i Bi B' ρ s' = QQ
  refine wpAny_assign_Name (wrVar_sound (wr_row _ _ _ _ _ _ _) V S hu fun s₁ sm₁ S₁ => ?_)
  refine hide fun GG hGG => ?_
  obtain ⟨aR, hR, _⟩ := S₁.addr (k := 11) rfl
  obtain ⟨aC, hCh, _⟩ := S₁.addr (k := 12) rfl
  obtain ⟨aK, hK, hKo⟩ := S₁.addr (k := 13) (o := .list (refs (ts.map (·.1)))) rfl
  refine hGG ?_
  clear hGG GG
  have V₁ : EnvOk (ρ.take 5 ++ []) aeL env := law_env S₁ V.loc V cellsLt
  have Sm := law_small (ex := []) (Hx := []) (nm' := nmG aR aC) (r' := some (.str (rowS m))) (c' := some (.gref aK)) (sg' := none) (l' := none) S₁ (by rw [List.append_nil]; exact List.Nodup.sublist (List.take_sublist _ _) S₁.nodup) rfl (fun i a o e => by simp at e)
    (NsImp.cons (u := .obj 11) rfl (fun x ⟨a, h1, h2⟩ => by rw [hR] at h1; cases h1; exact h2) (NsImp.cons (u := .obj 12) rfl (fun x ⟨a, h1, h2⟩ => by rw [hCh] at h1; cases h1; exact h2) NsImp.nil))
    (CImp.imm rfl) (CImp.some fun x ⟨a, h1, h2⟩ => by rw [hK] at h1; cases h1; exact h2) CImp.none CImp.none
  have cm : Here h₀ (Base.less (ρ.take 5) s₁.heap) (ρ.take 5 ++ []) aeL env _ s₁ A N2 := ⟨law_base S₁ hB, V₁, Sm, hA⟩
  refine wpAny_execs_cons ?_
  refine wpAny_mono (s_sound G (evN_sound G KE) (enum_sound G (evN_sound G KE)) cm (allN runP8a m hm64 aR aC aK)) (fun f s₂ q => ?_) fun _ _ e => e
  refine hide fun GG hGG => ?_
  obtain ⟨sm₂, as1, p₁, hf, S₂⟩ := q
  refine hGG ?_
  clear hGG GG
  cases hf
  refine wpAny_execs_cons ?_
  have cm₂ := cm.next p₁ S₂
  rw [sh8b]
  refine wpAny_Expr ?_ (by unfold interactive; rw [V.kind]; rfl) rfl
  rw [arm_eval_Call, base_of (by rfl)]
  refine wpAny_bind (wpAny_Name (rdVar_sound G (rd_cores aR aC aK m _ _) cm₂.hB cm₂.V cm₂.S fun x hx => wpAny_bind (wpAny_standAt ?_)) (by decide +kernel))
  cases hx
  have hev : evList (evL.e aeL) (S8 aR aC aK m (some (.obj 5)) [.list (avInts (singleA m))]) ([callArg (stVal b8b)].map (cE 40)) = some ([.obj 7], S8 aR aC aK m (some (.obj 5)) [.list (avInts (singleA m)), .list (avInts (lettersA m)), .list [.obj 5, .obj 6]]) := by
    simp only [List.map_cons, List.map_nil, evList, evArg_plain starArg, allN runP8b m hm64 aR aC aK]
    rfl
  have fl := noStar_flags (pos := exPos (stVal b8b)) (env := env) (evN_sound G KE) [callArg (stVal b8b)] hev (by simp [starArg])
  have hform : methodCallForm ([callArg (stVal b8b)].length + ([] : List Keyword).length) (backTo (exPos (stVal b8b)) (starEach [callArg (stVal b8b)] env)) (backToKw (exPos (stVal b8b)) (keywordEach [] env)) = true := by
    unfold methodCallForm
    rw [fl.2]
    simp [backToKw, keywordEach]
  have hpos : methodCallPos true (.Name (vS "cores") (exPos (attrOf (callFn (stVal b8b))))) env (attrPos (callFn (stVal b8b))) (exPos (stVal b8b)) = pure (exPos (stVal b8b)) := by
    unfold methodCallPos
    have : ((attrPos (callFn (stVal b8b))).endLine == (exPos (stVal b8b)).line) = true := beq_iff_eq.mpr (Nat.eq_of_beq_eq_true pos8)
    simp [this]
  have hK5 : aK ∉ ρ.take 5 := fun h => by
    obtain ⟨j, hj, e'⟩ := List.mem_iff_getElem.mp h
    rw [take5 S₁] at hj
    have e3 : (ρ.take 5)[j]? = some aK := by rw [List.getElem?_eq_getElem (by rw [take5 S₁]; exact hj), e']
    rw [take5_get S₁ hj] at e3
    have := S₁.inj hK e3
    omega
  have hKo2 := hKo
  refine hide fun GG hGG => ?_
  obtain ⟨_, kvs, ⟨kn, kge⟩, _⟩ := hKo2
  refine hGG ?_
  clear hGG GG
  unfold methodCall
  rw [hform]
  refine wpAny_bind (wpAny_holding (Calls.getMethod_list_append (less_kept S₂ aK _ hK5 kge) rfl rfl ?_))
  refine wpAny_bind (wpAny_of_eq hpos ?_)
  refine callWith_builtin fl.1 (evalArgs_sp ?_ ?_)
  · intro q e
    have := fl.1
    rw [e] at this
    cases this
  · refine nxt (list_sound (evN_sound G KE) [callArg (stVal b8b)] cm₂ hev) fun ws s₃ as2 sm₃ p₃ hws S₃ => ?_
    refine hide fun GG hGG => ?_
    obtain ⟨z, rfl, hz⟩ := hws.one
    have p13 := p₁.trans p₃
    have notin : ∀ {j : Nat} {x : Addr}, 5 ≤ j → as2[j]? = some x → x ∉ ρ.take 5 := fun {j x} hj e h => by
      obtain ⟨q, hq, e'⟩ := List.mem_iff_getElem.mp h
      have e3 : (ρ.take 5 ++ [])[q]? = some x := by rw [List.append_nil, List.getElem?_eq_getElem hq, e']
      have := S₃.inj (get_pre p13 e3) e
      rw [take5 S₁] at hq
      omega
    obtain ⟨dS, oS, vS', hdS, nS, kS, zS, ⟨qS, rfl⟩, rS⟩ := small_list S₃ (j := 5) (xs := avInts (singleA m)) rfl fun x e => notin (by decide) e
    obtain ⟨dL, oL, vL, hdL, nL, kL, zL, ⟨qL, rfl⟩, rL⟩ := small_list S₃ (j := 6) (xs := avInts (lettersA m)) rfl fun x e => notin (by decide) e
    obtain ⟨dC, oC, vC, hdC, nC, kC, zC, ⟨qC, rfl⟩, rC⟩ := small_list S₃ (j := 7) (xs := [.obj 5, .obj 6]) rfl fun x e => notin (by decide) e
    refine hGG ?_
    clear hGG GG
    obtain ⟨x1, rfl, hx1⟩ : ∃ x, z = .ref x ∧ as2[7]? = some x := by obtain ⟨x, h1, h2⟩ := hz; exact ⟨x, h2, h1⟩
    rw [hdC] at hx1; cases hx1
    refine hide fun GG hGG => ?_
    obtain ⟨u1, u2, rfl, ⟨w1, e1, rfl⟩, ⟨w2, e2, rfl⟩⟩ := rC.two
    refine hGG ?_
    clear hGG GG
    rw [hdS] at e1; cases e1
    rw [hdL] at e2; cases e2
    have Sb : St B' ρ (HL nm5 none (some (.obj 13)) none none (L8 a b d e ms ds ts)) s₃ := law_back S₁ p13 S₃
      (NsImp.cons (u := .gref aR) rfl (fun x h => ⟨aR, hR, h⟩) (NsImp.cons (u := .gref aC) rfl (fun x h => ⟨aC, hCh, h⟩) NsImp.nil)) CImp.none (CImp.some fun x h => ⟨aK, hK, h⟩) CImp.none CImp.none
    have F : Fresh [(dC, _), (dS, _), (dL, _)] s₁ s₃ := ⟨fun q hq => by
        simp at hq; rcases hq with rfl | rfl | rfl
        · exact nC
        · exact nS
        · exact nL, fun q hq => by
        simp at hq; rcases hq with rfl | rfl | rfl
        · exact kC
        · exact kS
        · exact kL⟩
    have Sp := Sb.plus F fun x hx => S₁.stand hx
    have hlt : i < ms.length := (List.getElem?_eq_some_iff.mp him).1
    have htl : ts.length = i := by rw [hC.len, List.length_take]; omega
    have hm4 := hm.len
    have hme : method (HL nm5 none (some (.obj 13)) none none (L8 a b d e ms ds ts)) (.obj 13) .append [.gref dC] = some (.none, HL nm5 none (some (.obj 13)) none none (L8 a b d e ms ds (ts ++ [(dC, dS, dL)]))) := by
      have hok : okL (refs (List.map (fun t : Tri => t.1) ts) ++ [AV.gref dC]) = true := Nat.ble_eq_true_of_le (by
        rw [List.length_append, refs_len, List.length_map, htl]
        show i + 1 ≤ 1048576
        omega)
      show (match okL (refs (List.map (fun t : Tri => t.1) ts) ++ [AV.gref dC]) with | true => some (AV.none, (HL nm5 none (some (.obj 13)) none none (L8 a b d e ms ds ts)).set 13 (.list (refs (List.map (fun t : Tri => t.1) ts) ++ [AV.gref dC]))) | false => none) = _
      rw [hok]
      have er : refs ((ts ++ [((dC, dS, dL) : Tri)]).map (·.1)) = refs (List.map (fun t : Tri => t.1) ts) ++ [AV.gref dC] := by unfold refs; simp
      show some (AV.none, HL nm5 none (some (.obj 13)) none none (P4 a b d e ++ [.list (avInts ms), .list (avRow10 ms), .flist (avRows ms), .list (refs ds), .list (refs (List.map (fun t : Tri => t.1) ts) ++ [AV.gref dC])])) = _
      rw [← er]
    refine nxt (callMeth_sound (m := .append) (vs := [.gref dC]) (ws := [.ref dC]) Sp hme ⟨aK, hK, rfl⟩ ⟨rfl, trivial⟩) fun q s₄ ρ₄ sm₄ p₄ hq S₄ => ?_
    cases hq
    have hρ : ρ₄ = ρ := same_len p₄ (by rw [S₄.len, Sp.len]; rfl)
    subst hρ
    rw [← hQQ]
    refine wpAny_execs_nil ⟨rfl, _, _, sm₁.trans (sm₂.trans (sm₃.trans sm₄)), S₄.weaken (grow_plus F.was S₁.kept), ⟨s₁, _, S₁, ⟨F.was, fun q hq => S₄.kept _ _ (fresh_lookup F hq B')⟩⟩, fun B'' g' hnew => ⟨ts ++ [(dC, dS, dL)], rfl, ⟨?_, ?_, ?_⟩, hd.grow g', hlt⟩⟩
    · rw [List.length_append, htl, List.length_take]; simp; omega
    · rw [flat_app, ← List.append_assoc, List.nodup_append]
      refine ⟨hC.nodup, ?_, ?_⟩
      · have n1 : dC ≠ dS := fun h => by have := S₃.inj hdC (h ▸ hdS); omega
        have n2 : dC ≠ dL := fun h => by have := S₃.inj hdC (h ▸ hdL); omega
        have n3 : dS ≠ dL := fun h => by have := S₃.inj hdS (h ▸ hdL); omega
        simp [flat, n1, n2, n3]
      · intro x hx y hy hxy
        obtain ⟨o, ho⟩ := hC.stand hd hx
        have h1 := S₁.kept _ _ (g _ _ ho)
        simp [flat] at hy
        rcases hy with rfl | rfl | rfl
        · rw [hxy, nC] at h1; cases h1
        · rw [hxy, nS] at h1; cases h1
        · rw [hxy, nL] at h1; cases h1
    · intro j t m' e1 e2
      by_cases hj : j < ts.length
      · rw [List.getElem?_append_left hj] at e1
        rw [List.getElem?_take_of_lt (by omega)] at e2
        obtain ⟨x, y, z⟩ := hC.pl j t m' e1 (by rw [List.getElem?_take_of_lt (by omega)]; exact e2)
        exact ⟨x.grow g', y.grow g', z.grow g'⟩
      · rw [List.getElem?_append_right (by omega)] at e1
        have hj2 : j = i := by
          have := (List.getElem?_eq_some_iff.mp e1).1
          simp at this; omega
        rw [hj2, ← htl, Nat.sub_self] at e1
        cases e1
        rw [hj2, List.getElem?_take_of_lt (by omega), him] at e2
        cases e2
        exact ⟨⟨_, hnew (dC, _) (by simp), zC, qC, [.ref dS, .ref dL], rfl, rfl, rfl, trivial⟩, ⟨_, hnew (dS, _) (by simp), zS, qS, _, rfl, rS.imm (avInts_imm _)⟩, ⟨_, hnew (dL, _) (by simp), zL, qL, _, rfl, rL.imm (avInts_imm _)⟩⟩

theorem st7 (G : Gd prog w cx2 h₀) {a b d e : List AV} {ms : List Nat} {ds : List Addr} (hm : Modes ms) (hd : Chains B ds ms) (hnd : ds.Nodup)
    (c : Here h₀ B ρ aeL env (HL nm5 none (some (.obj 13)) none none (P4 a b d e ++ [.list (avInts ms), .list (avRow10 ms), .list (avRows ms), .list (refs ds), .list []])) s A N2)
    (hQ : ∀ ts B' ρ' s', Cores B' ds ts ms → Chains B' ds ms → Here h₀ B' ρ' aeL env (HL nm5 none (some (.obj 13)) none none (L9 a b d e ms ds ts)) s' A N2 → Same s s' → Q .next s') :
    wpAny (model prog w) A (exec (lawSt 7) env) Q E s := by
  rw [sh7]
  refine for_rel G (evN_sound G KE) (Inv8 a b d e ms ds) c (it7 a b d e _ _ _ _ _) ⟨[], rfl, ⟨rfl, by simpa [flat] using hnd, fun j t m e1 e2 => by simp at e1⟩, hd, Nat.zero_le _⟩
    (fun i v hv Hi Bi B' ρ' s' u E' inv g hB V S hu => turn8 G hm hv inv g hB V S hu c.R) fun s' Hn Bn ρ' g p inv sm hth => ?_
  refine hide fun GG hGG => ?_
  obtain ⟨ts, rfl, hC, hd', _⟩ := inv
  refine hGG ?_
  clear hGG GG
  have hl : (avRows ms).length = ms.length := by unfold avRows; rw [List.length_map]
  rw [hl, List.take_length] at hC
  exact hQ ts Bn ρ' s' hC hd' ⟨fun b o h => g _ _ (c.hB b o h), c.V.mono p, hth _ rfl, c.R⟩ sm
end
end Mine

namespace Mine
open PySem PySem.Calls PyProof.Rows PySem.W

/-! unlike = ..; if len(_deduplicate_unhashable(chains)) != len(unlike): return False: run for every class -/
noncomputable def reps : List Nat := [0, 2, 4, 8, 10, 12, 16, 18, 20, 24, 32, 34, 36, 40, 42, 44, 48, 50, 52, 56]
noncomputable def repA (m : Nat) : Nat := match chainA m with | h :: _ => h | [] => m
noncomputable def repOk (m : Nat) : Bool := nbeq (chainA m) (chainA (repA m)) && nbeq (singleA m) (singleA (repA m)) && nbeq (lettersA m) (lettersA (repA m)) && reps.any (Nat.beq (repA m))
theorem reps64 : (m64.all repOk) = true := by kernel_rfl
noncomputable def coreL (k m : Nat) : Hp := [.flist [.obj (k + 1), .obj (k + 2)], .flist (avInts (singleA m)), .flist (avInts (lettersA m))]
noncomputable def idx (a : Nat) (step : Nat) : Nat → List AV
  | 0 => []
  | n + 1 => .obj a :: idx (a + step) step n
noncomputable def coresL : Nat → List Nat → Hp
  | _, [] => []
  | k, m :: r => coreL k m ++ coresL (k + 3) r
noncomputable def chainsL (ms : List Nat) : Hp := ms.map fun m => .flist (avRows (chainA m))
noncomputable def X9 (rs : List AV) (ms : List Nat) : Hp := .flist rs :: .flist (idx 8 1 ms.length) :: .flist (idx (8 + ms.length) 3 ms.length) :: (chainsL ms ++ coresL (8 + ms.length) ms)
noncomputable def S9 (rs : List AV) (ms : List Nat) : Hp := HL [(vS "rows", .obj 5), (vS "chains", .obj 6)] none (some (.obj 7)) none none (X9 rs ms)
noncomputable def ok9 (r : Option (AFlow × Hp)) : Bool := match r with
  | some (.next, .ns nm :: .cell _ :: .cell (some (.obj k)) :: .cell _ :: .cell _ :: _) => Nat.beq k 7 && (match lkp (vS "rows") nm with | some (.obj i) => Nat.beq i 5 | _ => false) && (match lkp (vS "chains") nm with | some (.obj i) => Nat.beq i 6 | _ => false)
  | _ => false
noncomputable def run9 (rs : List AV) (ms : List Nat) : Bool := ok9 (evL.x aeL (S9 rs ms) [cS 40 40 (lawSt 8), cS 40 40 (lawSt 9)])
noncomputable def rs4 (r0 r1 r2 r3 : Str) : List AV := [.str r0, .str r1, .str r2, .str r3]
theorem run9_2 (r0 r1 : Str) : run9 [.str r0, .str r1] [32, 12] = true := by kernel_rfl
theorem run9_3 (r0 r1 r2 : Str) : (reps.all fun m => run9 [.str r0, .str r1, .str r2] [m, 32, 12]) = true := by kernel_rfl
theorem run9_0x (r0 r1 r2 r3 : Str) : (reps.all fun m => run9 (rs4 r0 r1 r2 r3) [0, m, 32, 12]) = true := by kernel_rfl
theorem run9_2x (r0 r1 r2 r3 : Str) : (reps.all fun m => run9 (rs4 r0 r1 r2 r3) [2, m, 32, 12]) = true := by kernel_rfl
theorem run9_4x (r0 r1 r2 r3 : Str) : (reps.all fun m => run9 (rs4 r0 r1 r2 r3) [4, m, 32, 12]) = true := by kernel_rfl
theorem run9_8x (r0 r1 r2 r3 : Str) : (reps.all fun m => run9 (rs4 r0 r1 r2 r3) [8, m, 32, 12]) = true := by kernel_rfl
theorem run9_10x (r0 r1 r2 r3 : Str) : (reps.all fun m => run9 (rs4 r0 r1 r2 r3) [10, m, 32, 12]) = true := by kernel_rfl
theorem run9_12x (r0 r1 r2 r3 : Str) : (reps.all fun m => run9 (rs4 r0 r1 r2 r3) [12, m, 32, 12]) = true := by kernel_rfl
theorem run9_16x (r0 r1 r2 r3 : Str) : (reps.all fun m => run9 (rs4 r0 r1 r2 r3) [16, m, 32, 12]) = true := by kernel_rfl
theorem run9_18x (r0 r1 r2 r3 : Str) : (reps.all fun m => run9 (rs4 r0 r1 r2 r3) [18, m, 32, 12]) = true := by kernel_rfl
theorem run9_20x (r0 r1 r2 r3 : Str) : (reps.all fun m => run9 (rs4 r0 r1 r2 r3) [20, m, 32, 12]) = true := by kernel_rfl
theorem run9_24x (r0 r1 r2 r3 : Str) : (reps.all fun m => run9 (rs4 r0 r1 r2 r3) [24, m, 32, 12]) = true := by kernel_rfl
theorem run9_32x (r0 r1 r2 r3 : Str) : (reps.all fun m => run9 (rs4 r0 r1 r2 r3) [32, m, 32, 12]) = true := by kernel_rfl
theorem run9_34x (r0 r1 r2 r3 : Str) : (reps.all fun m => run9 (rs4 r0 r1 r2 r3) [34, m, 32, 12]) = true := by kernel_rfl
theorem run9_36x (r0 r1 r2 r3 : Str) : (reps.all fun m => run9 (rs4 r0 r1 r2 r3) [36, m, 32, 12]) = true := by kernel_rfl
theorem run9_40x (r0 r1 r2 r3 : Str) : (reps.all fun m => run9 (rs4 r0 r1 r2 r3) [40, m, 32, 12]) = true := by kernel_rfl
theorem run9_42x (r0 r1 r2 r3 : Str) : (reps.all fun m => run9 (rs4 r0 r1 r2 r3) [42, m, 32, 12]) = true := by kernel_rfl
theorem run9_44x (r0 r1 r2 r3 : Str) : (reps.all fun m => run9 (rs4 r0 r1 r2 r3) [44, m, 32, 12]) = true := by kernel_rfl
theorem run9_48x (r0 r1 r2 r3 : Str) : (reps.all fun m => run9 (rs4 r0 r1 r2 r3) [48, m, 32, 12]) = true := by kernel_rfl
theorem run9_50x (r0 r1 r2 r3 : Str) : (reps.all fun m => run9 (rs4 r0 r1 r2 r3) [50, m, 32, 12]) = true := by kernel_rfl
theorem run9_52x (r0 r1 r2 r3 : Str) : (reps.all fun m => run9 (rs4 r0 r1 r2 r3) [52, m, 32, 12]) = true := by kernel_rfl
theorem run9_56x (r0 r1 r2 r3 : Str) : (reps.all fun m => run9 (rs4 r0 r1 r2 r3) [56, m, 32, 12]) = true := by kernel_rfl
theorem run9all4 (r0 r1 r2 r3 : Str) {k m : Nat} (hk : k ∈ reps) (hm : m ∈ reps) : run9 (rs4 r0 r1 r2 r3) [k, m, 32, 12] = true := by
  simp only [reps, List.mem_cons, List.not_mem_nil, or_false] at hk
  rcases hk with rfl | rfl | rfl | rfl | rfl | rfl | rfl | rfl | rfl | rfl | rfl | rfl | rfl | rfl | rfl | rfl | rfl | rfl | rfl | rfl
  · exact List.all_eq_true.mp (run9_0x r0 r1 r2 r3) m hm
  · exact List.all_eq_true.mp (run9_2x r0 r1 r2 r3) m hm
  · exact List.all_eq_true.mp (run9_4x r0 r1 r2 r3) m hm
  · exact List.all_eq_true.mp (run9_8x r0 r1 r2 r3) m hm
  · exact List.all_eq_true.mp (run9_10x r0 r1 r2 r3) m hm
  · exact List.all_eq_true.mp (run9_12x r0 r1 r2 r3) m hm
  · exact List.all_eq_true.mp (run9_16x r0 r1 r2 r3) m hm
  · exact List.all_eq_true.mp (run9_18x r0 r1 r2 r3) m hm
  · exact List.all_eq_true.mp (run9_20x r0 r1 r2 r3) m hm
  · exact List.all_eq_true.mp (run9_24x r0 r1 r2 r3) m hm
  · exact List.all_eq_true.mp (run9_32x r0 r1 r2 r3) m hm
  · exact List.all_eq_true.mp (run9_34x r0 r1 r2 r3) m hm
  · exact List.all_eq_true.mp (run9_36x r0 r1 r2 r3) m hm
  · exact List.all_eq_true.mp (run9_40x r0 r1 r2 r3) m hm
  · exact List.all_eq_true.mp (run9_42x r0 r1 r2 r3) m hm
  · exact List.all_eq_true.mp (run9_44x r0 r1 r2 r3) m hm
  · exact List.all_eq_true.mp (run9_48x r0 r1 r2 r3) m hm
  · exact List.all_eq_true.mp (run9_50x r0 r1 r2 r3) m hm
  · exact List.all_eq_true.mp (run9_52x r0 r1 r2 r3) m hm
  · exact List.all_eq_true.mp (run9_56x r0 r1 r2 r3) m hm
end Mine

namespace Mine
open PySem PySem.Calls PyProof.Rows PySem.W

theorem rep_eq {m : Nat} (h : m < 64) : chainA m = chainA (repA m) ∧ singleA m = singleA (repA m) ∧ lettersA m = lettersA (repA m) ∧ repA m ∈ reps := by
  have := List.all_eq_true.mp reps64 m (mem64 h)
  unfold repOk at this
  simp only [Bool.and_eq_true] at this
  refine hide fun GG hGG => ?_
  obtain ⟨⟨⟨h1, h2⟩, h3⟩, h4⟩ := this
  refine hGG ?_
  clear hGG GG
  refine ⟨nbeq_iff.mp h1, nbeq_iff.mp h2, nbeq_iff.mp h3, ?_⟩
  obtain ⟨x, hx, e⟩ := List.any_eq_true.mp h4
  rw [Nat.eq_of_beq_eq_true e]; exact hx
theorem chainsL_rep : ∀ {ms : List Nat}, (∀ m ∈ ms, m < 64) → chainsL ms = chainsL (ms.map repA)
  | [], _ => rfl
  | m :: r, h => by
    show AObj.flist (avRows (chainA m)) :: chainsL r = AObj.flist (avRows (chainA (repA m))) :: chainsL (r.map repA)
    rw [← chainsL_rep fun x hx => h x (List.mem_cons_of_mem _ hx), ← (rep_eq (h m List.mem_cons_self)).1]
theorem coresL_rep : ∀ {ms : List Nat} {k : Nat}, (∀ m ∈ ms, m < 64) → coresL k ms = coresL k (ms.map repA)
  | [], _, _ => rfl
  | m :: r, k, h => by
    show coreL k m ++ coresL (k + 3) r = coreL k (repA m) ++ coresL (k + 3) (r.map repA)
    refine hide fun GG hGG => ?_
    obtain ⟨_, h2, h3, _⟩ := rep_eq (h m List.mem_cons_self)
    refine hGG ?_
    clear hGG GG
    rw [← coresL_rep fun x hx => h x (List.mem_cons_of_mem _ hx)]
    unfold coreL
    rw [← h2, ← h3]
theorem S9_rep {rs : List AV} {ms : List Nat} (h : ∀ m ∈ ms, m < 64) : S9 rs ms = S9 rs (ms.map repA) := by
  unfold S9 X9
  rw [chainsL_rep h, coresL_rep h, List.length_map]
theorem run9_rep {rs : List AV} {ms : List Nat} (h : ∀ m ∈ ms, m < 64) : run9 rs ms = run9 rs (ms.map repA) := by unfold run9; rw [S9_rep h]
theorem rep33 : repA 33 = 32 := by decide +kernel
theorem rep12 : repA 12 = 12 := by decide +kernel
theorem run9_all {ms : List Nat} (h : Modes ms) : run9 (avRows ms) ms = true := by
  rw [run9_rep h.lt]
  refine hide fun GG hGG => ?_
  obtain ⟨l, hl, hlt, rfl⟩ := h
  refine hGG ?_
  clear hGG GG
  match l, hl with
  | [], _ => 
    show run9 _ [repA 33, repA 12] = true
    rw [rep33, rep12]; exact run9_2 _ _
  | [a], _ =>
    show run9 _ [repA a, repA 33, repA 12] = true
    rw [rep33, rep12]; exact List.all_eq_true.mp (run9_3 _ _ _) _ (rep_eq (hlt a (by simp))).2.2.2
  | [a, b], _ =>
    show run9 _ [repA a, repA b, repA 33, repA 12] = true
    rw [rep33, rep12]; exact run9all4 _ _ _ _ (rep_eq (hlt a (by simp))).2.2.2 (rep_eq (hlt b (by simp))).2.2.2
  | _ :: _ :: _ :: _, hl => exact absurd hl (by simp)

section
variable {prog : Program} {w : World} {h₀ : Heap}
variable {B B' : Base} {ρ as as' ex : List Addr} {H H' H1 H2 Hx T : Hp} {s s' : Shared} {env : Env} {A : Around} {E : Value → Shared → Prop} {Q : Flow → Shared → Prop}

/-- things and their looks, one by one -/
noncomputable def All2 {α β : Type} (P : α → β → Prop) : List α → List β → Prop
  | [], [] => True
  | a :: l, b :: r => P a b ∧ All2 P l r
  | _, _ => False
theorem All2.get {α β : Type} {P : α → β → Prop} : ∀ {l : List α} {r : List β}, All2 P l r → ∀ {i : Nat} {a : α} {b : β}, l[i]? = some a → r[i]? = some b → P a b
  | [], [], _, _, _, _, e, _ => by simp at e
  | _ :: _, _ :: _, h, 0, _, _, e1, e2 => by cases e1; cases e2; exact h.1
  | _ :: _, _ :: _, h, i + 1, _, _, e1, e2 => h.2.get (i := i) e1 e2
theorem All2.len {α β : Type} {P : α → β → Prop} : ∀ {l : List α} {r : List β}, All2 P l r → l.length = r.length
  | [], [], _ => rfl
  | _ :: _, _ :: _, h => by rw [List.length_cons, List.length_cons, h.2.len]
theorem All2.app {α β : Type} {P : α → β → Prop} : ∀ {l l' : List α} {r r' : List β}, All2 P l r → All2 P l' r' → All2 P (l ++ l') (r ++ r')
  | [], _, [], _, _, h => h
  | _ :: _, _, _ :: _, _, h, h' => ⟨h.1, h.2.app h'⟩

theorem vrs_idx {step : Nat} : ∀ {n a : Nat} {xs : List Addr} {vs : List Value}, VRs ρ (refs xs) vs → xs.length = n → (∀ (j : Nat) (x : Addr), xs[j]? = some x → as[a + step * j]? = some x) → VRs as (idx a step n) vs
  | 0, _, [], [], _, _, _ => trivial
  | 0, _, [], _ :: _, h, _, _ => h.elim
  | n + 1, a, x :: xs, v :: vs, h, hl, hk => by
    refine ⟨⟨x, by simpa using hk 0 x rfl, h.1⟩, vrs_idx h.2 (by simpa using hl) fun j y e => ?_⟩
    have := hk (j + 1) y e
    rwa [show a + step + step * j = a + step * (j + 1) by rw [Nat.mul_add]; omega]
  | 0, _, _ :: _, _, _, hl, _ => by cases hl
  | _ + 1, _, [], _, _, hl, _ => by cases hl
  | _ + 1, _, _ :: _, [], h, _, _ => h.elim
theorem chains_all {P : Addr → AObj → Prop} : ∀ {ds : List Addr} {ms : List Nat}, ds.length = ms.length → (∀ (j : Nat) (d : Addr) (m : Nat), ds[j]? = some d → ms[j]? = some m → P d (.flist (avRows (chainA m)))) → All2 P ds (chainsL ms)
  | [], [], _, _ => trivial
  | d :: ds, m :: ms, hl, h => ⟨h 0 d m rfl rfl, chains_all (by simpa using hl) fun j d m e1 e2 => h (j + 1) d m e1 e2⟩
theorem cores_all {P : Addr → AObj → Prop} : ∀ {ts : List Tri} {ms : List Nat} {k : Nat}, ts.length = ms.length →
    (∀ (j : Nat) (t : Tri) (m : Nat), ts[j]? = some t → ms[j]? = some m → P t.1 (.flist [.obj (k + 3 * j + 1), .obj (k + 3 * j + 2)]) ∧ P t.2.1 (.flist (avInts (singleA m))) ∧ P t.2.2 (.flist (avInts (lettersA m)))) → All2 P (flat ts) (coresL k ms)
  | [], [], _, _, _ => trivial
  | t :: ts, m :: ms, k, hl, h => by
    have e : flat (t :: ts) = [t.1, t.2.1, t.2.2] ++ flat ts := rfl
    rw [e]
    obtain ⟨h1, h2, h3⟩ := h 0 t m rfl rfl
    refine All2.app (r := coreL k m) ⟨h1, h2, h3, trivial⟩ (cores_all (by simpa using hl) fun j t m e1 e2 => ?_)
    have := h (j + 1) t m e1 e2
    rwa [show k + 3 + 3 * j = k + 3 * (j + 1) by omega]
theorem flat_get : ∀ {ts : List Tri} {j : Nat} {t : Tri}, ts[j]? = some t → (flat ts)[3 * j]? = some t.1 ∧ (flat ts)[3 * j + 1]? = some t.2.1 ∧ (flat ts)[3 * j + 2]? = some t.2.2
  | [], _, _, e => by simp at e
  | u :: ts, 0, t, e => by cases e; exact ⟨rfl, rfl, rfl⟩
  | u :: ts, j + 1, t, e => by
    obtain ⟨h1, h2, h3⟩ := flat_get (ts := ts) e
    have e : flat (u :: ts) = u.1 :: u.2.1 :: u.2.2 :: flat ts := rfl
    rw [e, show 3 * (j + 1) = 3 * j + 1 + 1 + 1 by omega]
    exact ⟨h1, h2, h3⟩

theorem ok9_some {r : Option (AFlow × Hp)} (h : ok9 r = true) : ∃ nm c1 c3 c4 T, r = some (.next, HL nm c1 (some (.obj 7)) c3 c4 T) ∧ lkp (vS "rows") nm = some (.obj 5) ∧ lkp (vS "chains") nm = some (.obj 6) := by
  unfold ok9 at h
  split at h
  · rename_i nm c1 k c3 c4 T
    rw [Bool.and_eq_true, Bool.and_eq_true] at h
    obtain ⟨⟨hk, h1⟩, h2⟩ := h
    have hk := Nat.eq_of_beq_eq_true hk
    subst hk
    refine ⟨nm, c1, c3, c4, T, rfl, ?_, ?_⟩
    · split at h1
      · rename_i i e; rw [e, Nat.eq_of_beq_eq_true h1]
      · cases h1
    · split at h2
      · rename_i i e; rw [e, Nat.eq_of_beq_eq_true h2]
      · cases h2
  · cases h

theorem st89 (G : Gd prog w cx2 h₀) {a b d e : List AV} {ms : List Nat} {ds : List Addr} {ts : List Tri} (hm : Modes ms) (hd : Chains B ds ms) (hC : Cores B ds ts ms)
    (c : Here h₀ B ρ aeL env (HL nm5 none (some (.obj 13)) none none (L9 a b d e ms ds ts)) s A N2)
    (hQ : ∀ s', Here h₀ B ρ aeL env (HL nm5 none (some (.obj 13)) none none (L9 a b d e ms ds ts)) s' A N2 → Same s s' → Q .next s') :
    wpAny (model prog w) A (execs [lawSt 8, lawSt 9] env) Q E s := by
  have S := c.S
  refine hide fun GG hGG => ?_
  obtain ⟨aR, hR, oR⟩ := S.addr (k := 11) (o := .list (avRows ms)) rfl
  obtain ⟨aC, hCh, oC⟩ := S.addr (k := 12) (o := .list (refs ds)) rfl
  obtain ⟨aK, hK, oK⟩ := S.addr (k := 13) (o := .list (refs (ts.map (·.1)))) rfl
  have h5 := take5 S
  have hg : ∀ (i : Nat), (ρ.take 5 ++ (aR :: aC :: aK :: (ds ++ flat ts)))[5 + i]? = (aR :: aC :: aK :: (ds ++ flat ts))[i]? := fun i => by
    rw [List.getElem?_append_right (by omega), h5, Nat.add_sub_cancel_left]
  have hg8 : ∀ (i : Nat), (ρ.take 5 ++ (aR :: aC :: aK :: (ds ++ flat ts)))[8 + i]? = (ds ++ flat ts)[i]? := fun i => by
    have := hg (3 + i)
    rw [show 5 + (3 + i) = 8 + i by omega, show 3 + i = i + 1 + 1 + 1 by omega] at this
    exact this
  have hdl := hd.1
  have htl := hC.len
  have hgd : ∀ (j : Nat) (x : Addr), ds[j]? = some x → (ρ.take 5 ++ (aR :: aC :: aK :: (ds ++ flat ts)))[8 + 1 * j]? = some x := fun j x e => by
    rw [Nat.one_mul, hg8, List.getElem?_append_left (List.getElem?_eq_some_iff.mp e).1]; exact e
  have hgt : ∀ (q : Nat), (ρ.take 5 ++ (aR :: aC :: aK :: (ds ++ flat ts)))[8 + ms.length + q]? = (flat ts)[q]? := fun q => by
    rw [show 8 + ms.length + q = 8 + (ms.length + q) by omega, hg8, List.getElem?_append_right (by omega), hdl, Nat.add_sub_cancel_left]
  have nin : ∀ {i : Nat} {x : Addr}, 5 ≤ i → ρ[i]? = some x → x ∉ ρ.take 5 := fun {i x} hi e h => by
    obtain ⟨j, hj, e'⟩ := List.mem_iff_getElem.mp h
    have e3 : (ρ.take 5)[j]? = some x := by rw [List.getElem?_eq_getElem hj, e']
    rw [h5] at hj
    rw [take5_get S hj] at e3
    have := S.inj e e3
    omega
  have hBn : ∀ {i : Nat} {x : Addr} {o : AObj}, ρ[i]? = some x → (HL nm5 none (some (.obj 13)) none none (L9 a b d e ms ds ts))[i]? = some o → isMut o = true → x ∉ ds ++ flat ts := fun {i x o} e1 e2 h2 hx => by
    obtain ⟨ob, e3⟩ := hC.stand hd hx
    rw [S.own i x o e1 e2 h2] at e3; cases e3
  have hnd : (ρ.take 5 ++ (aR :: aC :: aK :: (ds ++ flat ts))).Nodup := by
    rw [List.nodup_append]
    refine ⟨List.Nodup.sublist (List.take_sublist _ _) S.nodup, ?_, fun x hx y hy hxy => ?_⟩
    · have n1 : aR ≠ aC := fun h => by have := S.inj hR (h ▸ hCh); omega
      have n2 : aR ≠ aK := fun h => by have := S.inj hR (h ▸ hK); omega
      have n3 : aC ≠ aK := fun h => by have := S.inj hCh (h ▸ hK); omega
      have m1 := hBn hR rfl rfl
      have m2 := hBn hCh rfl rfl
      have m3 := hBn hK rfl rfl
      simp only [List.nodup_cons, List.mem_cons, not_or]
      exact ⟨⟨n1, n2, m1⟩, ⟨n3, m2⟩, m3, hC.nodup⟩
    · subst hxy
      rcases List.mem_cons.mp hy with rfl | hy
      · exact nin (by decide) hR hx
      rcases List.mem_cons.mp hy with rfl | hy
      · exact nin (by decide) hCh hx
      rcases List.mem_cons.mp hy with rfl | hy
      · exact nin (by decide) hK hx
      · have h1 := take5_none S x hx
        obtain ⟨o, h2⟩ := hC.stand hd hy
        rw [h1] at h2; cases h2
  have all : All2 (fun x o => isMut o = false ∧ ObjIs (ρ.take 5 ++ (aR :: aC :: aK :: (ds ++ flat ts))) s.heap x o) (aR :: aC :: aK :: (ds ++ flat ts)) (X9 (avRows ms) ms) := by
    refine ⟨⟨rfl, ?_⟩, ⟨rfl, ?_⟩, ⟨rfl, ?_⟩, All2.app ?_ ?_⟩
    · obtain ⟨z, vs, hl, hv⟩ := oR
      exact ⟨z, vs, hl, hv.imm (avRows_imm ms)⟩
    · obtain ⟨z, vs, hl, hv⟩ := oC
      refine ⟨?_, vs, hl, vrs_idx hv hdl hgd⟩
      have := hm.len
      have hh : (idx 8 1 ms.length).length = ms.length := by
        have : ∀ n a st, (idx a st n).length = n := by
          intro n
          induction n with
          | zero => intro a st; rfl
          | succ n ih => intro a st; show (idx _ _ n).length + 1 = _; rw [ih]
        exact this _ _ _
      rw [hh]
      show ms.length ≤ 1048576
      omega
    · obtain ⟨z, vs, hl, hv⟩ := oK
      refine ⟨?_, vs, hl, vrs_idx hv (by rw [List.length_map]; exact htl) fun j x e => ?_⟩
      · have := hm.len
        have hh : (idx (8 + ms.length) 3 ms.length).length = ms.length := by
          have : ∀ n a st, (idx a st n).length = n := by
            intro n
            induction n with
            | zero => intro a st; rfl
            | succ n ih => intro a st; show (idx _ _ n).length + 1 = _; rw [ih]
          exact this _ _ _
        rw [hh]
        show ms.length ≤ 1048576
        omega
      · rw [List.getElem?_map] at e
        cases ht : ts[j]? with
        | none => rw [ht] at e; cases e
        | some t =>
          rw [ht] at e
          cases e
          rw [hgt]; exact (flat_get ht).1
    · exact chains_all hdl fun j x m e1 e2 => ⟨rfl, (hd.2.2 j x m e1 e2).at S.kept _⟩
    · refine cores_all htl fun j t m e1 e2 => ?_
      obtain ⟨h1, h2, h3⟩ := hC.pl j t m e1 e2
      refine ⟨⟨rfl, ?_⟩, ⟨rfl, h2.at S.kept _⟩, ⟨rfl, h3.at S.kept _⟩⟩
      obtain ⟨o, e, z, n, vs, rfl, hv⟩ := h1
      obtain ⟨u1, u2, rfl, hu1, hu2⟩ := hv.two
      cases hu1; cases hu2
      obtain ⟨_, g2, g3⟩ := flat_get e1
      exact ⟨z, _, ⟨n, S.kept _ _ e⟩, ⟨_, by rw [show 8 + ms.length + 3 * j + 1 = 8 + ms.length + (3 * j + 1) by omega, hgt]; exact g2, rfl⟩, ⟨_, by rw [show 8 + ms.length + 3 * j + 2 = 8 + ms.length + (3 * j + 2) by omega, hgt]; exact g3, rfl⟩, trivial⟩
  have lft : ∀ {i : Nat} {x : Addr}, (aR :: aC :: aK :: (ds ++ flat ts))[i]? = some x → ∀ {k : Nat}, ρ[k]? = some x → ∀ y, VR ρ (.obj k) y → VR (ρ.take 5 ++ (aR :: aC :: aK :: (ds ++ flat ts))) (.obj (5 + i)) y := fun {i x} e {k} hk y ⟨q, h1, h2⟩ => by
    rw [hk] at h1; cases h1; exact ⟨x, by rw [hg]; exact e, h2⟩
  have Sm := law_small (ex := aR :: aC :: aK :: (ds ++ flat ts)) (Hx := X9 (avRows ms) ms) (nm' := [(vS "rows", .obj 5), (vS "chains", .obj 6)]) (r' := none) (c' := some (.obj 7)) (sg' := none) (l' := none) S hnd all.len
    (fun i x o e1 e2 => all.get e1 e2) (NsImp.cons (u := .obj 11) rfl (lft (i := 0) rfl hR) (NsImp.cons (u := .obj 12) rfl (lft (i := 1) rfl hCh) NsImp.nil)) CImp.none (CImp.some (lft (i := 2) rfl hK)) CImp.none CImp.none
  obtain ⟨nm, c1, c3, c4, T, hr, k1, k2⟩ := ok9_some (run9_all hm)
  refine hGG ?_
  clear hGG GG
  refine nxt ((evN_sound G KE).x 40 40 [lawSt 8, lawSt 9] aeL env _ _ _ s A _ _ hr (law_base S c.hB) (law_env S c.V.loc c.V cellsLt) Sm c.R _) fun f s' as' sm p hf S' => ?_
  cases hf
  have rgt : ∀ {i : Nat} {x : Addr}, (aR :: aC :: aK :: (ds ++ flat ts))[i]? = some x → ∀ {k : Nat}, ρ[k]? = some x → ∀ y, VR as' (.obj (5 + i)) y → VR ρ (.obj k) y := fun {i x} e {k} hk y ⟨q, h1, h2⟩ => by
    rw [get_pre p ((hg i).trans e)] at h1; cases h1; exact ⟨x, hk, h2⟩
  exact hQ s' ⟨c.hB, c.V, law_back S p S' (NsImp.cons k1 (rgt (i := 0) rfl hR) (NsImp.cons k2 (rgt (i := 1) rfl hCh) NsImp.nil)) CImp.none (CImp.some (rgt (i := 2) rfl hK)) CImp.none CImp.none, c.R⟩ sm
end
end Mine

namespace Mine
open PySem PySem.Calls PyProof.Rows PySem.W

/-! _compare_args_orderless -/
noncomputable def cmpBody : List Stmt := match (PW.main.body[42]? : Option Stmt) with
  | some (.FunctionDef _ _ body _ _ _ _ _ _ _) => body
  | _ => []
noncomputable def cmpScope : Scope := match (PW.main.body[42]? : Option Stmt) with
  | some (.FunctionDef _ _ _ _ _ _ scope _ _ _) => scope
  | _ => sc0
noncomputable def cq (i : Nat) : Stmt := match cmpBody[i]? with | some st => st | none => .Pass p0
theorem body5 : cmpBody = [cq 0, cq 1, cq 2, cq 3, cq 4] := by kernel_rfl
theorem bind190 (u v : Value) : bindAt 190 [u, v] = pure (zipAt 190 [u, v]) := by kernel_rfl
theorem st190 : fnStat 190 2 = true := by kernel_rfl
theorem cb190 : (match fdAt 190 with | some fd => fd.body | none => .stmts []) = .stmts cmpBody := by kernel_rfl
theorem cs190 : (match fdAt 190 with | some fd => fd.scope | none => sc0) = cmpScope := by kernel_rfl
theorem ca190 : (match fdAt 190 with | some fd => fd.params.args.map (·.arg) | none => []) = [vS "first_args", vS "second_args"] := by kernel_rfl
theorem cv190 : (match fdAt 190 with | some fd => fd.params.vararg.isSome | none => true) = false := by kernel_rfl
noncomputable def tryAll (s : Stmt) : List Stmt × List ExceptHandler := match s with
  | .Try b hs _ _ _ => (b, hs)
  | _ => ([], [])
noncomputable def tryBody (s : Stmt) : List Stmt := (tryAll s).1
noncomputable def tryPos (s : Stmt) : Pos := s.pos
noncomputable def firstS : List Stmt → Stmt
  | x :: _ => x
  | _ => .Pass p0
noncomputable def hdlOf (s : Stmt) : ExceptHandler := match (tryAll s).2 with | h :: _ => h | [] => .ExceptHandler none none [] p0
noncomputable def hdlType : ExceptHandler → PySem.Expr
  | .ExceptHandler (some t) _ _ _ => t
  | _ => e0
noncomputable def hdlBody : ExceptHandler → List Stmt
  | .ExceptHandler _ _ b _ => b
noncomputable def hdlPos : ExceptHandler → Pos
  | .ExceptHandler _ _ _ p => p
noncomputable def retVal : Stmt → PySem.Expr
  | .Return (some e) _ => e
  | _ => e0
noncomputable def constK (e : PySem.Expr) : Nat := match constP e with
  | some q => q.1.2.1
  | none => 0
noncomputable def consPos (e : PySem.Expr) : Pos := e.pos
noncomputable abbrev fr3 : Stmt := firstS (tryBody (cq 3))
noncomputable abbrev ex3 : Stmt := firstS (stBody fr3)
noncomputable abbrev ca3 : PySem.Expr := stVal ex3
noncomputable abbrev hd3 : ExceptHandler := hdlOf (cq 3)
noncomputable abbrev rt3 : Stmt := firstS (hdlBody hd3)
theorem sh3c : cq 3 = .Try [fr3] [hd3] [] [] (tryPos (cq 3)) := by kernel_rfl
theorem sh3f : fr3 = .For (.Name (vS "elem") (exPos (stTgt fr3))) (.Name (vS "first_unhashable") (exPos (stVal fr3))) [ex3] [] (stPos fr3) := by kernel_rfl
theorem sh3e : ex3 = .Expr (.Call (.Attribute (.Name (vS "t") (exPos (attrOf (callFn ca3)))) (vS "remove") (attrPos (callFn ca3))) [.Name (vS "elem") (exPos (callArg ca3))] [] (exPos ca3)) (stPos ex3) := by kernel_rfl
theorem sh3h : hd3 = .ExceptHandler (some (.Name (vS "ValueError") (exPos (hdlType hd3)))) none [rt3] (hdlPos hd3) := by kernel_rfl
theorem sh3r : rt3 = .Return (some (.Constant (.bool false) (constK (retVal rt3)) (consPos (retVal rt3)))) (stPos rt3) := by kernel_rfl
theorem pos3 : Nat.beq (attrPos (callFn ca3)).endLine (exPos ca3).line = true := by kernel_rfl
noncomputable def aeC : AEnv := ⟨cmpScope.names, 1, []⟩
noncomputable def PC1 (m : Nat) : Prop := ∀ dj : Nat, stepS cx2 evL aeC [.flist (avRows (chainA m)), .ns [(vS "first_args", .obj 0), (vS "second_args", .gref dj)]] (cS 40 40 (cq 0)) =
  some (.next, [.flist (avRows (chainA m)), .ns [(vS "first_args", .obj 0), (vS "second_args", .gref dj), (vS "first_unhashable", .obj 2)], .list (avRows (chainA m))])
noncomputable def PC2 (m : Nat) : Prop := ∀ dF : Nat, stepS cx2 evL aeC [.flist (avRows (chainA m)), .ns [(vS "second_args", .obj 0), (vS "first_unhashable", .gref dF)]] (cS 40 40 (cq 1)) =
  some (.next, [.flist (avRows (chainA m)), .ns [(vS "second_args", .obj 0), (vS "first_unhashable", .gref dF), (vS "second_unhashable", .obj 2)], .list (avRows (chainA m))])
noncomputable def PC3 (m : Nat) : Prop := ∀ dF : Nat, stepS cx2 evL aeC [.flist (avRows (chainA m)), .ns [(vS "second_args", .obj 0), (vS "first_unhashable", .gref dF), (vS "second_unhashable", .obj 2)], .list (avRows (chainA m))] (cS 40 40 (cq 2)) =
  some (.next, [.flist (avRows (chainA m)), .ns [(vS "second_args", .obj 0), (vS "first_unhashable", .gref dF), (vS "second_unhashable", .obj 2), (vS "t", .obj 3)], .list (avRows (chainA m)), .list (avRows (chainA m))])
theorem PC1_0 : PC1 0 := fun _ => by kernel_rfl
theorem PC1_1 : PC1 1 := fun _ => by kernel_rfl
theorem PC1_2 : PC1 2 := fun _ => by kernel_rfl
theorem PC1_3 : PC1 3 := fun _ => by kernel_rfl
theorem PC1_4 : PC1 4 := fun _ => by kernel_rfl
theorem PC1_5 : PC1 5 := fun _ => by kernel_rfl
theorem PC1_6 : PC1 6 := fun _ => by kernel_rfl
theorem PC1_7 : PC1 7 := fun _ => by kernel_rfl
theorem PC1_8 : PC1 8 := fun _ => by kernel_rfl
theorem PC1_9 : PC1 9 := fun _ => by kernel_rfl
theorem PC1_10 : PC1 10 := fun _ => by kernel_rfl
theorem PC1_11 : PC1 11 := fun _ => by kernel_rfl
theorem PC1_12 : PC1 12 := fun _ => by kernel_rfl
theorem PC1_13 : PC1 13 := fun _ => by kernel_rfl
theorem PC1_14 : PC1 14 := fun _ => by kernel_rfl
theorem PC1_15 : PC1 15 := fun _ => by kernel_rfl
theorem PC1_16 : PC1 16 := fun _ => by kernel_rfl
theorem PC1_17 : PC1 17 := fun _ => by kernel_rfl
theorem PC1_18 : PC1 18 := fun _ => by kernel_rfl
theorem PC1_19 : PC1 19 := fun _ => by kernel_rfl
theorem PC1_20 : PC1 20 := fun _ => by kernel_rfl
theorem PC1_21 : PC1 21 := fun _ => by kernel_rfl
theorem PC1_22 : PC1 22 := fun _ => by kernel_rfl
theorem PC1_23 : PC1 23 := fun _ => by kernel_rfl
theorem PC1_24 : PC1 24 := fun _ => by kernel_rfl
theorem PC1_25 : PC1 25 := fun _ => by kernel_rfl
theorem PC1_26 : PC1 26 := fun _ => by kernel_rfl
theorem PC1_27 : PC1 27 := fun _ => by kernel_rfl
theorem PC1_28 : PC1 28 := fun _ => by kernel_rfl
theorem PC1_29 : PC1 29 := fun _ => by kernel_rfl
theorem PC1_30 : PC1 30 := fun _ => by kernel_rfl
theorem PC1_31 : PC1 31 := fun _ => by kernel_rfl
theorem PC1_32 : PC1 32 := fun _ => by kernel_rfl
theorem PC1_33 : PC1 33 := fun _ => by kernel_rfl
theorem PC1_34 : PC1 34 := fun _ => by kernel_rfl
theorem PC1_35 : PC1 35 := fun _ => by kernel_rfl
theorem PC1_36 : PC1 36 := fun _ => by kernel_rfl
theorem PC1_37 : PC1 37 := fun _ => by kernel_rfl
theorem PC1_38 : PC1 38 := fun _ => by kernel_rfl
theorem PC1_39 : PC1 39 := fun _ => by kernel_rfl
theorem PC1_40 : PC1 40 := fun _ => by kernel_rfl
theorem PC1_41 : PC1 41 := fun _ => by kernel_rfl
theorem PC1_42 : PC1 42 := fun _ => by kernel_rfl
theorem PC1_43 : PC1 43 := fun _ => by kernel_rfl
theorem PC1_44 : PC1 44 := fun _ => by kernel_rfl
theorem PC1_45 : PC1 45 := fun _ => by kernel_rfl
theorem PC1_46 : PC1 46 := fun _ => by kernel_rfl
theorem PC1_47 : PC1 47 := fun _ => by kernel_rfl
theorem PC1_48 : PC1 48 := fun _ => by kernel_rfl
theorem PC1_49 : PC1 49 := fun _ => by kernel_rfl
theorem PC1_50 : PC1 50 := fun _ => by kernel_rfl
theorem PC1_51 : PC1 51 := fun _ => by kernel_rfl
theorem PC1_52 : PC1 52 := fun _ => by kernel_rfl
theorem PC1_53 : PC1 53 := fun _ => by kernel_rfl
theorem PC1_54 : PC1 54 := fun _ => by kernel_rfl
theorem PC1_55 : PC1 55 := fun _ => by kernel_rfl
theorem PC1_56 : PC1 56 := fun _ => by kernel_rfl
theorem PC1_57 : PC1 57 := fun _ => by kernel_rfl
theorem PC1_58 : PC1 58 := fun _ => by kernel_rfl
theorem PC1_59 : PC1 59 := fun _ => by kernel_rfl
theorem PC1_60 : PC1 60 := fun _ => by kernel_rfl
theorem PC1_61 : PC1 61 := fun _ => by kernel_rfl
theorem PC1_62 : PC1 62 := fun _ => by kernel_rfl
theorem PC1_63 : PC1 63 := fun _ => by kernel_rfl
theorem runPC1 : AllN PC1 64 := allN_succ (allN_succ (allN_succ (allN_succ (allN_succ (allN_succ (allN_succ (allN_succ (allN_succ (allN_succ (allN_succ (allN_succ (allN_succ (allN_succ (allN_succ (allN_succ (allN_succ (allN_succ (allN_succ (allN_succ (allN_succ (allN_succ (allN_succ (allN_succ (allN_succ (allN_succ (allN_succ (allN_succ (allN_succ (allN_succ (allN_succ (allN_succ (allN_succ (allN_succ (allN_succ (allN_succ (allN_succ (allN_succ (allN_succ (allN_succ (allN_succ (allN_succ (allN_succ (allN_succ (allN_succ (allN_succ (allN_succ (allN_succ (allN_succ (allN_succ (allN_succ (allN_succ (allN_succ (allN_succ (allN_succ (allN_succ (allN_succ (allN_succ (allN_succ (allN_succ (allN_succ (allN_succ (allN_succ (allN_succ (n := 0) trivial PC1_0) PC1_1) PC1_2) PC1_3) PC1_4) PC1_5) PC1_6) PC1_7) PC1_8) PC1_9) PC1_10) PC1_11) PC1_12) PC1_13) PC1_14) PC1_15) PC1_16) PC1_17) PC1_18) PC1_19) PC1_20) PC1_21) PC1_22) PC1_23) PC1_24) PC1_25) PC1_26) PC1_27) PC1_28) PC1_29) PC1_30) PC1_31) PC1_32) PC1_33) PC1_34) PC1_35) PC1_36) PC1_37) PC1_38) PC1_39) PC1_40) PC1_41) PC1_42) PC1_43) PC1_44) PC1_45) PC1_46) PC1_47) PC1_48) PC1_49) PC1_50) PC1_51) PC1_52) PC1_53) PC1_54) PC1_55) PC1_56) PC1_57) PC1_58) PC1_59) PC1_60) PC1_61) PC1_62) PC1_63
theorem PC2_0 : PC2 0 := fun _ => by kernel_rfl
theorem PC2_1 : PC2 1 := fun _ => by kernel_rfl
theorem PC2_2 : PC2 2 := fun _ => by kernel_rfl
theorem PC2_3 : PC2 3 := fun _ => by kernel_rfl
theorem PC2_4 : PC2 4 := fun _ => by kernel_rfl
theorem PC2_5 : PC2 5 := fun _ => by kernel_rfl
theorem PC2_6 : PC2 6 := fun _ => by kernel_rfl
theorem PC2_7 : PC2 7 := fun _ => by kernel_rfl
theorem PC2_8 : PC2 8 := fun _ => by kernel_rfl
theorem PC2_9 : PC2 9 := fun _ => by kernel_rfl
theorem PC2_10 : PC2 10 := fun _ => by kernel_rfl
theorem PC2_11 : PC2 11 := fun _ => by kernel_rfl
theorem PC2_12 : PC2 12 := fun _ => by kernel_rfl
theorem PC2_13 : PC2 13 := fun _ => by kernel_rfl
theorem PC2_14 : PC2 14 := fun _ => by kernel_rfl
theorem PC2_15 : PC2 15 := fun _ => by kernel_rfl
theorem PC2_16 : PC2 16 := fun _ => by kernel_rfl
theorem PC2_17 : PC2 17 := fun _ => by kernel_rfl
theorem PC2_18 : PC2 18 := fun _ => by kernel_rfl
theorem PC2_19 : PC2 19 := fun _ => by kernel_rfl
theorem PC2_20 : PC2 20 := fun _ => by kernel_rfl
theorem PC2_21 : PC2 21 := fun _ => by kernel_rfl
theorem PC2_22 : PC2 22 := fun _ => by kernel_rfl
theorem PC2_23 : PC2 23 := fun _ => by kernel_rfl
theorem PC2_24 : PC2 24 := fun _ => by kernel_rfl
theorem PC2_25 : PC2 25 := fun _ => by kernel_rfl
theorem PC2_26 : PC2 26 := fun _ => by kernel_rfl
theorem PC2_27 : PC2 27 := fun _ => by kernel_rfl
theorem PC2_28 : PC2 28 := fun _ => by kernel_rfl
theorem PC2_29 : PC2 29 := fun _ => by kernel_rfl
theorem PC2_30 : PC2 30 := fun _ => by kernel_rfl
theorem PC2_31 : PC2 31 := fun _ => by kernel_rfl
theorem PC2_32 : PC2 32 := fun _ => by kernel_rfl
theorem PC2_33 : PC2 33 := fun _ => by kernel_rfl
theorem PC2_34 : PC2 34 := fun _ => by kernel_rfl
theorem PC2_35 : PC2 35 := fun _ => by kernel_rfl
theorem PC2_36 : PC2 36 := fun _ => by kernel_rfl
theorem PC2_37 : PC2 37 := fun _ => by kernel_rfl
theorem PC2_38 : PC2 38 := fun _ => by kernel_rfl
theorem PC2_39 : PC2 39 := fun _ => by kernel_rfl
theorem PC2_40 : PC2 40 := fun _ => by kernel_rfl
theorem PC2_41 : PC2 41 := fun _ => by kernel_rfl
theorem PC2_42 : PC2 42 := fun _ => by kernel_rfl
theorem PC2_43 : PC2 43 := fun _ => by kernel_rfl
theorem PC2_44 : PC2 44 := fun _ => by kernel_rfl
theorem PC2_45 : PC2 45 := fun _ => by kernel_rfl
theorem PC2_46 : PC2 46 := fun _ => by kernel_rfl
theorem PC2_47 : PC2 47 := fun _ => by kernel_rfl
theorem PC2_48 : PC2 48 := fun _ => by kernel_rfl
theorem PC2_49 : PC2 49 := fun _ => by kernel_rfl
theorem PC2_50 : PC2 50 := fun _ => by kernel_rfl
theorem PC2_51 : PC2 51 := fun _ => by kernel_rfl
theorem PC2_52 : PC2 52 := fun _ => by kernel_rfl
theorem PC2_53 : PC2 53 := fun _ => by kernel_rfl
theorem PC2_54 : PC2 54 := fun _ => by kernel_rfl
theorem PC2_55 : PC2 55 := fun _ => by kernel_rfl
theorem PC2_56 : PC2 56 := fun _ => by kernel_rfl
theorem PC2_57 : PC2 57 := fun _ => by kernel_rfl
theorem PC2_58 : PC2 58 := fun _ => by kernel_rfl
theorem PC2_59 : PC2 59 := fun _ => by kernel_rfl
theorem PC2_60 : PC2 60 := fun _ => by kernel_rfl
theorem PC2_61 : PC2 61 := fun _ => by kernel_rfl
theorem PC2_62 : PC2 62 := fun _ => by kernel_rfl
theorem PC2_63 : PC2 63 := fun _ => by kernel_rfl
theorem runPC2 : AllN PC2 64 := allN_succ (allN_succ (allN_succ (allN_succ (allN_succ (allN_succ (allN_succ (allN_succ (allN_succ (allN_succ (allN_succ (allN_succ (allN_succ (allN_succ (allN_succ (allN_succ (allN_succ (allN_succ (allN_succ (allN_succ (allN_succ (allN_succ (allN_succ (allN_succ (allN_succ (allN_succ (allN_succ (allN_succ (allN_succ (allN_succ (allN_succ (allN_succ (allN_succ (allN_succ (allN_succ (allN_succ (allN_succ (allN_succ (allN_succ (allN_succ (allN_succ (allN_succ (allN_succ (allN_succ (allN_succ (allN_succ (allN_succ (allN_succ (allN_succ (allN_succ (allN_succ (allN_succ (allN_succ (allN_succ (allN_succ (allN_succ (allN_succ (allN_succ (allN_succ (allN_succ (allN_succ (allN_succ (allN_succ (allN_succ (n := 0) trivial PC2_0) PC2_1) PC2_2) PC2_3) PC2_4) PC2_5) PC2_6) PC2_7) PC2_8) PC2_9) PC2_10) PC2_11) PC2_12) PC2_13) PC2_14) PC2_15) PC2_16) PC2_17) PC2_18) PC2_19) PC2_20) PC2_21) PC2_22) PC2_23) PC2_24) PC2_25) PC2_26) PC2_27) PC2_28) PC2_29) PC2_30) PC2_31) PC2_32) PC2_33) PC2_34) PC2_35) PC2_36) PC2_37) PC2_38) PC2_39) PC2_40) PC2_41) PC2_42) PC2_43) PC2_44) PC2_45) PC2_46) PC2_47) PC2_48) PC2_49) PC2_50) PC2_51) PC2_52) PC2_53) PC2_54) PC2_55) PC2_56) PC2_57) PC2_58) PC2_59) PC2_60) PC2_61) PC2_62) PC2_63
theorem PC3_0 : PC3 0 := fun _ => by kernel_rfl
theorem PC3_1 : PC3 1 := fun _ => by kernel_rfl
theorem PC3_2 : PC3 2 := fun _ => by kernel_rfl
theorem PC3_3 : PC3 3 := fun _ => by kernel_rfl
theorem PC3_4 : PC3 4 := fun _ => by kernel_rfl
theorem PC3_5 : PC3 5 := fun _ => by kernel_rfl
theorem PC3_6 : PC3 6 := fun _ => by kernel_rfl
theorem PC3_7 : PC3 7 := fun _ => by kernel_rfl
theorem PC3_8 : PC3 8 := fun _ => by kernel_rfl
theorem PC3_9 : PC3 9 := fun _ => by kernel_rfl
theorem PC3_10 : PC3 10 := fun _ => by kernel_rfl
theorem PC3_11 : PC3 11 := fun _ => by kernel_rfl
theorem PC3_12 : PC3 12 := fun _ => by kernel_rfl
theorem PC3_13 : PC3 13 := fun _ => by kernel_rfl
theorem PC3_14 : PC3 14 := fun _ => by kernel_rfl
theorem PC3_15 : PC3 15 := fun _ => by kernel_rfl
theorem PC3_16 : PC3 16 := fun _ => by kernel_rfl
theorem PC3_17 : PC3 17 := fun _ => by kernel_rfl
theorem PC3_18 : PC3 18 := fun _ => by kernel_rfl
theorem PC3_19 : PC3 19 := fun _ => by kernel_rfl
theorem PC3_20 : PC3 20 := fun _ => by kernel_rfl
theorem PC3_21 : PC3 21 := fun _ => by kernel_rfl
theorem PC3_22 : PC3 22 := fun _ => by kernel_rfl
theorem PC3_23 : PC3 23 := fun _ => by kernel_rfl
theorem PC3_24 : PC3 24 := fun _ => by kernel_rfl
theorem PC3_25 : PC3 25 := fun _ => by kernel_rfl
theorem PC3_26 : PC3 26 := fun _ => by kernel_rfl
theorem PC3_27 : PC3 27 := fun _ => by kernel_rfl
theorem PC3_28 : PC3 28 := fun _ => by kernel_rfl
theorem PC3_29 : PC3 29 := fun _ => by kernel_rfl
theorem PC3_30 : PC3 30 := fun _ => by kernel_rfl
theorem PC3_31 : PC3 31 := fun _ => by kernel_rfl
theorem PC3_32 : PC3 32 := fun _ => by kernel_rfl
theorem PC3_33 : PC3 33 := fun _ => by kernel_rfl
theorem PC3_34 : PC3 34 := fun _ => by kernel_rfl
theorem PC3_35 : PC3 35 := fun _ => by kernel_rfl
theorem PC3_36 : PC3 36 := fun _ => by kernel_rfl
theorem PC3_37 : PC3 37 := fun _ => by kernel_rfl
theorem PC3_38 : PC3 38 := fun _ => by kernel_rfl
theorem PC3_39 : PC3 39 := fun _ => by kernel_rfl
theorem PC3_40 : PC3 40 := fun _ => by kernel_rfl
theorem PC3_41 : PC3 41 := fun _ => by kernel_rfl
theorem PC3_42 : PC3 42 := fun _ => by kernel_rfl
theorem PC3_43 : PC3 43 := fun _ => by kernel_rfl
theorem PC3_44 : PC3 44 := fun _ => by kernel_rfl
theorem PC3_45 : PC3 45 := fun _ => by kernel_rfl
theorem PC3_46 : PC3 46 := fun _ => by kernel_rfl
theorem PC3_47 : PC3 47 := fun _ => by kernel_rfl
theorem PC3_48 : PC3 48 := fun _ => by kernel_rfl
theorem PC3_49 : PC3 49 := fun _ => by kernel_rfl
theorem PC3_50 : PC3 50 := fun _ => by kernel_rfl
theorem PC3_51 : PC3 51 := fun _ => by kernel_rfl
theorem PC3_52 : PC3 52 := fun _ => by kernel_rfl
theorem PC3_53 : PC3 53 := fun _ => by kernel_rfl
theorem PC3_54 : PC3 54 := fun _ => by kernel_rfl
theorem PC3_55 : PC3 55 := fun _ => by kernel_rfl
theorem PC3_56 : PC3 56 := fun _ => by kernel_rfl
theorem PC3_57 : PC3 57 := fun _ => by kernel_rfl
theorem PC3_58 : PC3 58 := fun _ => by kernel_rfl
theorem PC3_59 : PC3 59 := fun _ => by kernel_rfl
theorem PC3_60 : PC3 60 := fun _ => by kernel_rfl
theorem PC3_61 : PC3 61 := fun _ => by kernel_rfl
theorem PC3_62 : PC3 62 := fun _ => by kernel_rfl
theorem PC3_63 : PC3 63 := fun _ => by kernel_rfl
theorem runPC3 : AllN PC3 64 := allN_succ (allN_succ (allN_succ (allN_succ (allN_succ (allN_succ (allN_succ (allN_succ (allN_succ (allN_succ (allN_succ (allN_succ (allN_succ (allN_succ (allN_succ (allN_succ (allN_succ (allN_succ (allN_succ (allN_succ (allN_succ (allN_succ (allN_succ (allN_succ (allN_succ (allN_succ (allN_succ (allN_succ (allN_succ (allN_succ (allN_succ (allN_succ (allN_succ (allN_succ (allN_succ (allN_succ (allN_succ (allN_succ (allN_succ (allN_succ (allN_succ (allN_succ (allN_succ (allN_succ (allN_succ (allN_succ (allN_succ (allN_succ (allN_succ (allN_succ (allN_succ (allN_succ (allN_succ (allN_succ (allN_succ (allN_succ (allN_succ (allN_succ (allN_succ (allN_succ (allN_succ (allN_succ (allN_succ (allN_succ (n := 0) trivial PC3_0) PC3_1) PC3_2) PC3_3) PC3_4) PC3_5) PC3_6) PC3_7) PC3_8) PC3_9) PC3_10) PC3_11) PC3_12) PC3_13) PC3_14) PC3_15) PC3_16) PC3_17) PC3_18) PC3_19) PC3_20) PC3_21) PC3_22) PC3_23) PC3_24) PC3_25) PC3_26) PC3_27) PC3_28) PC3_29) PC3_30) PC3_31) PC3_32) PC3_33) PC3_34) PC3_35) PC3_36) PC3_37) PC3_38) PC3_39) PC3_40) PC3_41) PC3_42) PC3_43) PC3_44) PC3_45) PC3_46) PC3_47) PC3_48) PC3_49) PC3_50) PC3_51) PC3_52) PC3_53) PC3_54) PC3_55) PC3_56) PC3_57) PC3_58) PC3_59) PC3_60) PC3_61) PC3_62) PC3_63
end Mine

namespace Mine
open PySem PySem.Calls PyProof.Rows PySem.W

/-! for row, chain, core in zip(rows, chains, cores) -/
noncomputable def S12 (m : Nat) : Hp := HL [(vS "chain", .obj 5), (vS "core", .obj 6)] (some (.str (rowS m))) none none none [.flist (avRows (chainA m)), .flist [.obj 7, .obj 8], .flist (avInts (singleA m)), .flist (avInts (lettersA m))]
noncomputable def ok12 (r : Option (AFlow × Hp)) : Bool := match r with
  | some (.next, .ns _ :: .cell _ :: .cell _ :: .cell _ :: .cell _ :: _) => true
  | _ => false
noncomputable def run12 (m : Nat) : Bool := ok12 (evL.x aeL (S12 m) ((stBody (lawSt 11)).map (cS 40 40)))
theorem run12a : ((List.range 16).all run12) = true := by kernel_rfl
theorem run12b : ((List.range 16).all fun m => run12 (16 + m)) = true := by kernel_rfl
theorem run12c : ((List.range 16).all fun m => run12 (32 + m)) = true := by kernel_rfl
theorem run12d : ((List.range 16).all fun m => run12 (48 + m)) = true := by kernel_rfl
end Mine

namespace Mine
open PySem PySem.Calls PyProof.Rows PySem.W

noncomputable def callArgs : PySem.Expr → List PySem.Expr
  | .Call _ as _ _ => as
  | _ => []
theorem sh11v : stVal (lawSt 11) = .Call (.Name (vS "zip") (exPos (callFn (stVal (lawSt 11))))) (callArgs (stVal (lawSt 11))) [] (exPos (stVal (lawSt 11))) := by kernel_rfl
noncomputable abbrev H11 (a b d e ms rs qs cs ks : List AV) : Hp := HL nm5 none (some (.obj 13)) none none (P4 a b d e ++ [.list ms, .list rs, .list qs, .list cs, .list ks])
theorem zipName (a b d e ms rs qs cs ks : List AV) : eName cx2 aeL (H11 a b d e ms rs qs cs ks) (vS "zip") = some (.bi .tZip, H11 a b d e ms rs qs cs ks) := by kernel_rfl
theorem zipArgs (a b d e ms rs qs cs ks : List AV) : evList (evL.e aeL) (H11 a b d e ms rs qs cs ks) ((callArgs (stVal (lawSt 11))).map (cE 40)) = some ([.obj 11, .obj 12, .obj 13], H11 a b d e ms rs qs cs ks) := by kernel_rfl
theorem zipStar : ((callArgs (stVal (lawSt 11))).map (cE 40)).any isStar = false := by kernel_rfl
theorem zipBind (x y z : AV) (ls : List AObj) : bindAll aeL (HL [] none none none none ls) [vS "row", vS "chain", vS "core"] [x, y, z] = some (HL [(vS "chain", y), (vS "core", z)] (some x) none none none ls) := by kernel_rfl
theorem run12_all {m : Nat} (h : m < 64) : run12 m = true := by
  by_cases h1 : m < 16
  · exact List.all_eq_true.mp run12a m (List.mem_range.mpr h1)
  by_cases h2 : m < 32
  · have := List.all_eq_true.mp run12b (m - 16) (List.mem_range.mpr (by omega))
    rwa [show 16 + (m - 16) = m by omega] at this
  by_cases h3 : m < 48
  · have := List.all_eq_true.mp run12c (m - 32) (List.mem_range.mpr (by omega))
    rwa [show 32 + (m - 32) = m by omega] at this
  · have := List.all_eq_true.mp run12d (m - 48) (List.mem_range.mpr (by omega))
    rwa [show 48 + (m - 48) = m by omega] at this
theorem ok12_some {r : Option (AFlow × Hp)} (h : ok12 r = true) : ∃ nm c1 c2 c3 c4 T, r = some (.next, HL nm c1 c2 c3 c4 T) := by
  unfold ok12 at h
  split at h
  · exact ⟨_, _, _, _, _, _, rfl⟩
  · cases h

section
variable {prog : Program} {w : World} {h₀ : Heap}
variable {B B' : Base} {ρ as as' ex : List Addr} {H H' H1 H2 Hx T : Hp} {s s' : Shared} {env : Env} {A : Around} {E : Value → Shared → Prop} {Q : Flow → Shared → Prop}

theorem St.stepW (S : St B ρ H s) {wr : List Addr} {h' : Heap} (hk : ∀ b o, b ∉ wr → s.heap.get? b = some o → h'.get? b = some o) (hρ : ∀ a ∈ ρ, a ∉ wr) (hB : ∀ b ∈ wr, B b = none) (t : Nat) : St B ρ H { s with heap := h', toks := t } :=
  ⟨fun b o e => hk b o (fun hb => by rw [hB b hb] at e; cases e) (S.kept b o e), S.len, S.nodup, S.own, fun i a o e1 e2 => (S.objs i a o e1 e2).mono (List.prefix_refl _) fun ob e => hk a ob (hρ a (List.mem_of_getElem? e1)) e⟩

/-- the body, for one row -/
theorem body12 (G : Gd prog w cx2 h₀) {m : Nat} (hm : m < 64) {dch dco dS dL : Addr} {ls : List AObj} (hch : PL B dch (avRows (chainA m))) (hco : PL B dco [.gref dS, .gref dL]) (hS : PL B dS (avInts (singleA m))) (hL : PL B dL (avInts (lettersA m)))
    (hnd : [dch, dco, dS, dL].Nodup) (c : Here h₀ B ρ aeL env (HL [(vS "chain", .gref dch), (vS "core", .gref dco)] (some (.str (rowS m))) none none none ls) s A N2)
    (hQ : ∀ s', Same s s' → St B ρ (HL [] none none none none ls) s' → Q .next s') : wpAny (model prog w) A (execs (stBody (lawSt 11)) env) Q E s := by
  have S := c.S
  have h5 := take5 S
  have hg : ∀ (i : Nat), (ρ.take 5 ++ [dch, dco, dS, dL])[5 + i]? = [dch, dco, dS, dL][i]? := fun i => by
    rw [List.getElem?_append_right (by omega), h5, Nat.add_sub_cancel_left]
  have st : ∀ x ∈ [dch, dco, dS, dL], ∃ o, B x = some o := fun x hx => by
    simp only [List.mem_cons, List.not_mem_nil, or_false] at hx
    rcases hx with rfl | rfl | rfl | rfl
    · obtain ⟨o, e, _⟩ := hch; exact ⟨o, e⟩
    · obtain ⟨o, e, _⟩ := hco; exact ⟨o, e⟩
    · obtain ⟨o, e, _⟩ := hS; exact ⟨o, e⟩
    · obtain ⟨o, e, _⟩ := hL; exact ⟨o, e⟩
  have nd : (ρ.take 5 ++ [dch, dco, dS, dL]).Nodup := by
    rw [List.nodup_append]
    refine ⟨List.Nodup.sublist (List.take_sublist _ _) S.nodup, hnd, fun x hx y hy hxy => ?_⟩
    subst hxy
    obtain ⟨o, e⟩ := st x hy
    rw [take5_none S x hx] at e; cases e
  have all : All2 (fun x o => isMut o = false ∧ ObjIs (ρ.take 5 ++ [dch, dco, dS, dL]) s.heap x o) [dch, dco, dS, dL] [.flist (avRows (chainA m)), .flist [.obj 7, .obj 8], .flist (avInts (singleA m)), .flist (avInts (lettersA m))] := by
    refine ⟨⟨rfl, hch.at S.kept _⟩, ⟨rfl, ?_⟩, ⟨rfl, hS.at S.kept _⟩, ⟨rfl, hL.at S.kept _⟩, trivial⟩
    refine hide fun GG hGG => ?_
    obtain ⟨o, e, z, n, vs, rfl, hv⟩ := hco
    obtain ⟨u1, u2, rfl, hu1, hu2⟩ := hv.two
    refine hGG ?_
    clear hGG GG
    cases hu1; cases hu2
    exact ⟨z, _, ⟨n, S.kept _ _ e⟩, ⟨_, hg 2, rfl⟩, ⟨_, hg 3, rfl⟩, trivial⟩
  have Sm := law_small (ex := [dch, dco, dS, dL]) (Hx := [.flist (avRows (chainA m)), .flist [.obj 7, .obj 8], .flist (avInts (singleA m)), .flist (avInts (lettersA m))]) (nm' := [(vS "chain", .obj 5), (vS "core", .obj 6)]) (r' := some (.str (rowS m))) (c' := none) (sg' := none) (l' := none) S nd rfl
    (fun i x o e1 e2 => all.get e1 e2) (NsImp.cons (u := .gref dch) rfl (fun x h => ⟨dch, hg 0, h⟩) (NsImp.cons (u := .gref dco) rfl (fun x h => ⟨dco, hg 1, h⟩) NsImp.nil)) (CImp.imm rfl) CImp.none CImp.none CImp.none
  refine hide fun GG hGG => ?_
  obtain ⟨nm, c1, c2, c3, c4, T, hr⟩ := ok12_some (run12_all hm)
  refine hGG ?_
  clear hGG GG
  refine nxt ((evN_sound G KE).x 40 40 (stBody (lawSt 11)) aeL env _ _ _ s A _ _ hr (law_base S c.hB) (law_env S c.V.loc c.V cellsLt) Sm c.R _) fun f s' as' sm p hf S' => ?_
  cases hf
  exact hQ s' sm (law_back S p S' NsImp.nil CImp.none CImp.none CImp.none CImp.none)
end
end Mine

namespace Mine
open PySem PySem.Calls PyProof.Rows PySem.W

section
variable {prog : Program} {w : World} {h₀ : Heap}
variable {B B' : Base} {ρ as as' ex : List Addr} {H H' H1 H2 Hx T : Hp} {s s' : Shared} {env : Env} {A : Around} {E : Value → Shared → Prop} {Q : Flow → Shared → Prop}

theorem st11 (G : Gd prog w cx2 h₀) {a b d e : List AV} {ms : List Nat} {ds : List Addr} {ts : List Tri} (hm : Modes ms) (hd : Chains B ds ms) (hC : Cores B ds ts ms)
    (c : Here h₀ B ρ aeL env (HL nm5 none (some (.obj 13)) none none (L9 a b d e ms ds ts)) s A N2) (hQ : ∀ s', Same s s' → St B ρ (HL [] none none none none (L9 a b d e ms ds ts)) s' → Q .next s') :
    wpAny (model prog w) A (exec (lawSt 11) env) Q E s := by
  have hA := c.R.handled
  rw [sh11, sh11v]
  refine wpAny_For ?_ (fun x => rfl)
  refine Call_ (eName_sound G c (zipName a b d e _ _ _ _ _) fun _ u hu => ?_)
  cases hu
  have fl := noStar_flags (pos := exPos (stVal (lawSt 11))) (env := env) (evN_sound G KE) (callArgs (stVal (lawSt 11))) (zipArgs a b d e (avInts ms) (avRow10 ms) (avRows ms) (refs ds) (refs (ts.map (·.1)))) zipStar
  refine callWith_bi (b := .tZip) fl.1 (evalArgs_sp ?_ ?_)
  · intro q e
    have := fl.1
    rw [e] at this
    cases this
  refine nxt (list_sound (evN_sound G KE) (callArgs (stVal (lawSt 11))) c (zipArgs a b d e _ _ _ _ _)) fun ws s₁ ρ₁ sm₁ p₁ hws S₁ => ?_
  have hρ : ρ₁ = ρ := same_len p₁ (by rw [S₁.len, c.S.len])
  subst hρ
  refine hide fun GG hGG => ?_
  obtain ⟨l1, e1, oR⟩ := S₁.addr (k := 11) (o := .list (avRows ms)) rfl
  obtain ⟨l2, e2, oC⟩ := S₁.addr (k := 12) (o := .list (refs ds)) rfl
  obtain ⟨l3, e3, oK⟩ := S₁.addr (k := 13) (o := .list (refs (ts.map (·.1)))) rfl
  obtain ⟨w1, w2, w3, rfl, ⟨x1, q1, rfl⟩, ⟨x2, q2, rfl⟩, ⟨x3, q3, rfl⟩⟩ : ∃ w1 w2 w3, ws = [w1, w2, w3] ∧ VR ρ₁ (.obj 11) w1 ∧ VR ρ₁ (.obj 12) w2 ∧ VR ρ₁ (.obj 13) w3 := by
    cases ws with
    | nil => exact hws.elim
    | cons w1 r =>
      obtain ⟨w2, w3, e, h2, h3⟩ := VRs.two (show VRs ρ₁ [.obj 12, .obj 13] r from hws.2)
      exact ⟨w1, w2, w3, by rw [e], hws.1, h2, h3⟩
  refine hGG ?_
  clear hGG GG
  rw [e1] at q1; cases q1
  rw [e2] at q2; cases q2
  rw [e3] at q3; cases q3
  refine hide fun GG hGG => ?_
  obtain ⟨_, v1, hl1, hv1⟩ := oR
  obtain ⟨_, v2, hl2, hv2⟩ := oC
  obtain ⟨_, v3, hl3, hv3⟩ := oK
  refine hGG ?_
  clear hGG GG
  refine call_zip_3 hl1.isList hl2.isList hl3.isList fun h₂ z TI TO i1 i2 i3 D Z hnew hk₂ => ?_
  refine wpAny_pyIter_zip Z.zip ?_
  have S₂ := HL_weaken (S₁.grow hk₂ s₁.toks) (nm2 := []) (r2 := none) (c2 := none) (sg2 := none) (l2 := none) NsImp.nil CImp.none CImp.none CImp.none CImp.none
  have sz : ∀ x ∈ [z, TI, TO, i1, i2, i3], x ∉ ρ₁ ∧ B x = none := fun x hx =>
    ⟨fun h => Nat.lt_irrefl _ (Nat.lt_of_lt_of_le (S₁.mem_lt h) (hnew x hx)), S₁.fresh (hnew x hx)⟩
  have wrs : ∀ x ∈ [z, TO, i1, i2, i3], x ∈ [z, TI, TO, i1, i2, i3] := fun x hx => by
    simp only [List.mem_cons, List.not_mem_nil, or_false] at hx ⊢
    rcases hx with h | h | h | h | h <;> simp [h]
  have lenR : (avRows ms).length = ms.length := by unfold avRows; rw [List.length_map]
  refine veil (fun (q : Nat) (s' : Shared) => ∃ i, q = ms.length + 1 - i ∧ i ≤ ms.length ∧ Same s s' ∧ St B ρ₁ (HL [] none none none none (L9 a b d e ms ds ts)) s' ∧ Z3 s'.heap z TI TO i1 i2 i3 l1 l2 l3 .none i) fun IV mk un => ?_
  refine codeAny_forLoop_any IV ?_ (ms.length + 1) (mk _ _ ⟨0, rfl, Nat.zero_le _, sm₁.trans (Same.mk s₁ h₂ s₁.toks), S₂, Z⟩)
  intro q s' iv
  refine hide fun GG hGG => ?_
  obtain ⟨i, rfl, hi, sm, S, Z⟩ := un _ _ iv
  clear iv un
  obtain ⟨l1', e1', oR⟩ := S.addr (k := 11) (o := .list (avRows ms)) rfl
  obtain ⟨l2', e2', oC⟩ := S.addr (k := 12) (o := .list (refs ds)) rfl
  obtain ⟨l3', e3', oK⟩ := S.addr (k := 13) (o := .list (refs (ts.map (·.1)))) rfl
  refine hGG ?_
  clear hGG GG
  rw [e1] at e1'; cases e1'
  rw [e2] at e2'; cases e2'
  rw [e3] at e3'; cases e3'
  refine hide fun GG hGG => ?_
  obtain ⟨_, v1, hl1, hv1⟩ := oR
  obtain ⟨_, v2, hl2, hv2⟩ := oC
  obtain ⟨_, v3, hl3, hv3⟩ := oK
  refine hGG ?_
  clear hGG GG
  by_cases hlt : i < ms.length
  · obtain ⟨m, hmi⟩ : ∃ m, ms[i]? = some m := ⟨_, List.getElem?_eq_getElem hlt⟩
    obtain ⟨dch, hdc⟩ : ∃ x, ds[i]? = some x := ⟨_, List.getElem?_eq_getElem (by rw [hd.1]; exact hlt)⟩
    obtain ⟨⟨dco, dS, dL⟩, hti⟩ : ∃ x, ts[i]? = some x := ⟨_, List.getElem?_eq_getElem (by rw [hC.len]; exact hlt)⟩
    obtain ⟨x, hx, hxr⟩ := hv1.get (i := i) (a := .str (rowS m)) (by unfold avRows; rw [List.getElem?_map, hmi]; rfl)
    obtain ⟨y, hy, hyr⟩ := hv2.get (i := i) (a := .gref dch) (by unfold refs; rw [List.getElem?_map, hdc]; rfl)
    obtain ⟨u, hu, hur⟩ := hv3.get (i := i) (a := .gref dco) (by unfold refs; rw [List.getElem?_map, List.getElem?_map, hti]; rfl)
    have hm64 := hm.lt m (List.mem_of_getElem? hmi)
    refine pyNext_zip3 D Z hl1.isList hl2.isList hl3.isList (by simpa using hx) (by simpa using hy) (by simpa using hu) fun h₃ Z₃ hT hk₃ => ?_
    have S₃ := S.stepW hk₃ (fun x hx h => (sz x (wrs x h)).1 hx) (fun x h => (sz x (wrs x h)).2) s'.toks
    refine wpAny_letOwnedTupleGo_zip Z₃.zip fun h₄ hz₄ hs₄ => ?_
    have hk₄ : ∀ b o, b ∉ [z] → h₃.get? b = some o → h₄.get? b = some o := fun b o hb e => hs₄.extBut _ _ (fun h => hb (by simp [h])) e
    have S₄ := S₃.stepW hk₄ (fun x hx h => (sz x (wrs x (by simp at h; simp [h]))).1 hx) (fun x h => (sz x (wrs x (by simp at h; simp [h]))).2) s'.toks
    have nz : ∀ {x : Addr} {o : Obj}, x ∈ [TI, TO, i1, i2, i3] → h₃.get? x = some o → h₄.get? x = some o := fun {x o} hx e => hk₄ x o (fun h => by
      have hxz := List.mem_singleton.mp h
      subst hxz
      have nd := D.nd
      have dti := D.ti
      simp only [List.nodup_cons, List.mem_cons, List.not_mem_nil, or_false, not_or] at nd dti
      simp only [List.mem_cons, List.not_mem_nil, or_false] at hx
      rcases hx with h | h | h | h | h
      · exact dti.1 h.symm
      · exact nd.1.1 h
      · exact nd.1.2.1 h
      · exact nd.1.2.2.1 h
      · exact nd.1.2.2.2 h) e
    have Z₄ : Z3 h₄ z TI TO i1 i2 i3 l1 l2 l3 .none (i + 1) := by
      refine hide fun GG hGG => ?_
      obtain ⟨_, b1, ⟨b2, b3, b4, b5⟩, b6, b7, b8⟩ := Z₃
      refine hGG ?_
      clear hGG GG
      exact ⟨hz₄, nz (by simp) b1, ⟨b2, b3, b4, nz (by simp) b5⟩, b6.at fun o e => nz (by simp) e, b7.at fun o e => nz (by simp) e, b8.at fun o e => nz (by simp) e⟩
    have hTz : s'.heap.objs.size ≠ z := fun h => by
      have := Heap.lt_size Z.zip
      rw [h] at this; exact Nat.lt_irrefl _ this
    have hT₄ : h₄.IsTuple s'.heap.objs.size #[x, y, u] := ⟨_, hk₄ _ _ (by simpa using hTz) hT, rfl, _, rfl⟩
    have hap : Apart ρ₁ (HL [] none none none none (L9 a b d e ms ds ts)) [z, TI, TO, i1, i2, i3] := fun j x o e1 e2 hm h => (sz x h).1 (List.mem_of_getElem? e1)
    have S₅ := S₄.over hap
    have gB : Grow B (B.over [z, TI, TO, i1, i2, i3] h₄) := grow_over S₄.kept
    refine wpAny_assign_Tuple hA hT₄ rfl rfl fun h₅ hx₅ => ?_
    have S₆ := S₅.grow (h' := h₅) (fun b o e => hx₅ b o (Nat.ne_of_lt (Heap.lt_size e)) e) s'.toks
    refine wpAny_mono (bindAll_sound (elts := [.Name (vS "row") _, .Name (vS "chain") _, .Name (vS "core") _]) rfl (zipBind (.str (rowS m)) (.gref dch) (.gref dco) _) ⟨hxr, hyr, hur, trivial⟩ c.V S₆) (fun _ s₇ q => ?_) fun _ _ e => e
    refine hide fun GG hGG => ?_
    obtain ⟨sm₇, S₇⟩ := q
    obtain ⟨hP1, hP2, hP3⟩ := hC.pl i _ m hti hmi
    refine hGG ?_
    clear hGG GG
    have hnd : [dch, dco, dS, dL].Nodup := by
      obtain ⟨f1, f2, f3⟩ := flat_get hti
      have nd := hC.nodup
      have hsub : [dco, dS, dL].Nodup := by
        have nf : (flat ts).Nodup := (List.nodup_append.mp nd).2.1
        have g1 := (List.getElem?_eq_some_iff.mp f1)
        have g2 := (List.getElem?_eq_some_iff.mp f2)
        have g3 := (List.getElem?_eq_some_iff.mp f3)
        refine hide fun GG hGG => ?_
        obtain ⟨g1, g1'⟩ := g1
        obtain ⟨g2, g2'⟩ := g2
        obtain ⟨g3, g3'⟩ := g3
        refine hGG ?_
        clear hGG GG
        have n1 : dco ≠ dS := fun h => by
          have := (List.getElem_inj nf).mp ((g1'.trans h).trans g2'.symm); omega
        have n2 : dco ≠ dL := fun h => by
          have := (List.getElem_inj nf).mp ((g1'.trans h).trans g3'.symm); omega
        have n3 : dS ≠ dL := fun h => by
          have := (List.getElem_inj nf).mp ((g2'.trans h).trans g3'.symm); omega
        simp [n1, n2, n3]
      rw [List.nodup_cons]
      refine ⟨fun h => ?_, hsub⟩
      have hdm := List.mem_of_getElem? hdc
      have hf : dch ∈ flat ts := by
        simp only [List.mem_cons, List.not_mem_nil, or_false] at h
        rcases h with rfl | rfl | rfl
        · exact List.mem_of_getElem? f1
        · exact List.mem_of_getElem? f2
        · exact List.mem_of_getElem? f3
      exact (List.nodup_append.mp nd).2.2 _ hdm _ hf rfl
    refine body12 G hm64 ((hd.2.2 i dch m hdc hmi).grow gB) (hP1.grow gB) (hP2.grow gB) (hP3.grow gB) hnd ⟨fun b o h => gB _ _ (c.hB b o h), c.V, S₇, c.R⟩ fun s₈ sm₈ S₈ => ?_
    have kp : ∀ x ∈ [z, TI, TO, i1, i2, i3], ∀ o, h₄.get? x = some o → s₈.heap.get? x = some o := fun x hx o e => S₈.kept x o (by unfold Base.over; rw [if_pos hx]; exact e)
    refine ⟨ms.length + 1 - (i + 1), loop_less hlt, mk _ _ ⟨i + 1, rfl, hlt, sm.trans ((Same.mk s' h₅ s'.toks).trans (sm₇.trans sm₈)), S₈.weaken gB, ?_⟩⟩
    refine hide fun GG hGG => ?_
    obtain ⟨b0, b1, ⟨b2, b3, b4, b5⟩, b6, b7, b8⟩ := Z₄
    refine hGG ?_
    clear hGG GG
    exact ⟨kp z (by simp) _ b0, kp TI (by simp) _ b1, ⟨b2, b3, b4, kp TO (by simp) _ b5⟩, b6.at fun o e => kp i1 (by simp) o e, b7.at fun o e => kp i2 (by simp) o e, b8.at fun o e => kp i3 (by simp) o e⟩
  · have hin : i = ms.length := by omega
    subst hin
    refine pyNext_zip3_end hA D Z hl1.isList (by simp [hv1.length, lenR]) fun h₃ hk₃ => wpAny_execs_nil ?_
    exact hQ _ (sm.trans (Same.mk s' h₃ s'.toks)) (S.stepW hk₃ (fun x hx h => (sz x (wrs x h)).1 hx) (fun x h => (sz x (wrs x h)).2) s'.toks)
end
end Mine

namespace Mine
open PySem PySem.Calls PyProof.Rows PySem.W

section
variable {prog : Program} {w : World} {h₀ : Heap}
variable {B B' : Base} {ρ as as' ex : List Addr} {H H' H1 H2 Hx T : Hp} {s s' : Shared} {env : Env} {A : Around} {E : Value → Shared → Prop} {Q : Flow → Shared → Prop}

theorem get_meth_remove {l : Addr} {o : Obj} {M : Model} {pl : Sem Bool} {Q : Value × List Value → Shared → Prop} (h1 : s.heap.get? l = some o) (h2 : o.cls = .type "list") (h3 : o.dict = none) (hQ : Q (.builtin "list.remove", [.ref l]) s) :
    wpAny M A (getMethod (.ref l) (vS "remove") pl) Q E s :=
  getMethod_builtin (T := "list") ⟨_, h1, h2⟩ PySem.F.plainAttrs_list PySem.F.slot_list_remove PySem.F.type_list_remove (fun b e => by cases e; exact ⟨_, h1, h3⟩) hQ
theorem remove_raises {l : Addr} {pos : Pos} {x : Sem Value} {Q : Value → Shared → Prop} (hA : A.handled = none)
    (h : wpAny (model prog w) A x (fun v s₁ => ∃ (items : Array Value) (n : Nat) (e : Value → Bool), IsL s₁.heap l items n ∧ (∀ y, y ∈ items → MeetsSeq.EqGives y v (e y)) ∧ (∀ m (hm : m < items.size), e items[m] = false) ∧
      ∀ h' tk ex, Heap.NewExc s₁.heap h' ex "ValueError" → E (.ref ex) { s₁ with heap := h', toks := tk }) E s) :
    wpAny (model prog w) A (callWith pos (.builtin "list.remove") [.ref l] [(false, x)] []) Q E s :=
  seqMethod1_meets F.slot_list_remove F.entry_list_remove (wpAny_mono h (fun v s₁ h₁ => by
    refine hide fun GG hGG => ?_
    obtain ⟨items, n, e, hl, he, hno, hq⟩ := h₁
    refine hGG ?_
    clear hGG GG
    exact ⟨⟨_, hl, rfl⟩, F.args_list_remove_2 _ _, _, MeetsSeq.list_remove_none l items n v e he hno, hl, hA, hq⟩) fun _ _ e => e)
/-- the words «t.remove(elem)» -/
theorem eval_remove {l : Addr} {Q : Value → Shared → Prop} {o : Obj}
    (ht : ∀ (R : Value → Shared → Prop), R (.ref l) s → wpAny (model prog w) A (eval (.Name (vS "t") (exPos (attrOf (callFn ca3)))) env) R E s)
    (h1 : s.heap.get? l = some o) (h2 : o.cls = .type "list") (h3 : o.dict = none)
    (h : wpAny (model prog w) A (callWith (exPos ca3) (.builtin "list.remove") [.ref l] [(false, eval (.Name (vS "elem") (exPos (callArg ca3))) env)] []) Q E s) :
    wpAny (model prog w) A (eval (.Call (.Attribute (.Name (vS "t") (exPos (attrOf (callFn ca3)))) (vS "remove") (attrPos (callFn ca3))) [.Name (vS "elem") (exPos (callArg ca3))] [] (exPos ca3)) env) Q E s := by
  rw [arm_eval_Call, base_of (by rfl)]
  refine wpAny_bind (ht _ (wpAny_bind (wpAny_standAt ?_)))
  have hform : methodCallForm ([PySem.Expr.Name (vS "elem") (exPos (callArg ca3))].length + ([] : List Keyword).length) (backTo (exPos ca3) (starEach [.Name (vS "elem") (exPos (callArg ca3))] env)) (backToKw (exPos ca3) (keywordEach [] env)) = true := by
    unfold methodCallForm
    simp [backTo, starEach, backToKw, keywordEach]
  have hpos : methodCallPos true (.Name (vS "t") (exPos (attrOf (callFn ca3)))) env (attrPos (callFn ca3)) (exPos ca3) = pure (exPos ca3) := by
    unfold methodCallPos
    have : ((attrPos (callFn ca3)).endLine == (exPos ca3).line) = true := beq_iff_eq.mpr (Nat.eq_of_beq_eq_true pos3)
    simp [this]
  unfold methodCall
  rw [hform]
  refine wpAny_bind (wpAny_holding (get_meth_remove h1 h2 h3 ?_))
  exact wpAny_bind (wpAny_of_eq hpos h)
end
end Mine

namespace Mine
open PySem PySem.Calls PyProof.Rows PySem.W

section
variable {prog : Program} {w : World} {h₀ : Heap}
variable {B B' : Base} {ρ as as' ex : List Addr} {H H' H1 H2 Hx T : Hp} {s s' : Shared} {env : Env} {A : Around} {E : Value → Shared → Prop} {Q : Flow → Shared → Prop}

noncomputable abbrev nmC : List (Str × AV) := [(vS "first_unhashable", .obj 0), (vS "t", .obj 2)]
noncomputable abbrev nmD (v : AV) : List (Str × AV) := [(vS "first_unhashable", .obj 0), (vS "t", .obj 2), (vS "elem", v)]
theorem itC (xs ys : List AV) (p : Pos) : itemsOf cx2 evL aeC [.flist xs, .ns nmC, .list ys] (cE 40 (.Name (vS "first_unhashable") p)) = some (xs, none, [.flist xs, .ns nmC, .list ys]) := by kernel_rfl
theorem wrC (xs ys : List AV) (v : AV) : wrVar aeC [.flist xs, .ns nmC, .list ys] (vS "elem") v = some [.flist xs, .ns (nmD v), .list ys] := by kernel_rfl
theorem rdT (xs ys : List AV) (v : AV) : rdVar cx2 aeC [.flist xs, .ns (nmD v), .list ys] (vS "t") = some (.obj 2) := by kernel_rfl
theorem rdE (xs ys : List AV) (v : AV) : rdVar cx2 aeC [.flist xs, .ns (nmD v), .list ys] (vS "elem") = some v := by kernel_rfl
theorem ns1_weaken {o0 : AObj} {nm nm2 : List (Str × AV)} {ls : Hp} (S : St B ρ (o0 :: .ns nm :: ls) s) (k : NsImp ρ nm ρ nm2) : St B ρ (o0 :: .ns nm2 :: ls) s := by
  refine ⟨S.kept, S.len, S.nodup, fun i a o e1 e2 hm => ?_, fun i a o e1 e2 => ?_⟩
  · match i, e1, e2 with
    | 0, e1, e2 => exact S.own 0 a _ e1 e2 hm
    | 1, e1, e2 => exact S.own 1 a _ e1 rfl rfl
    | i + 2, e1, e2 => exact S.own (i + 2) a o e1 e2 hm
  · match i, e1, e2 with
    | 0, e1, e2 => exact S.objs 0 a _ e1 e2
    | 1, e1, e2 => cases e2; exact (S.objs 1 a _ e1 rfl).nsImp k
    | i + 2, e1, e2 => exact S.objs (i + 2) a o e1 e2
noncomputable def eqS (t : Str) : Value → Bool
  | .str a _ => a == t
  | _ => false
theorem eqS_gives {xs : List AV} {vs : List Value} (hs : ∀ x ∈ xs, ∃ t, x = AV.str t) (hv : VRs ρ xs vs) (t : Str) (tk : Tok) : ∀ y, y ∈ vs.toArray → MeetsSeq.EqGives y (.str t tk) (eqS t y) := by
  intro y hy
  obtain ⟨a, ha, hr⟩ := hv.mem' (by simpa using hy)
  obtain ⟨x, rfl⟩ := hs a ha
  obtain ⟨_, k, rfl⟩ := hr
  exact eqGives_str x t k tk

theorem cmp_same (G : Gd prog w cx2 h₀) {xs : List AV} (hxs : ∀ x ∈ xs, ∃ t, x = AV.str t) (c : Here h₀ B ρ aeC env [.flist xs, .ns nmC, .list xs] s A N2)
    (hQ : ∀ s' B' ρ', Same s s' → Grow B B' → ρ <+: ρ' → St B' ρ' [.flist xs, .ns nmC, .list []] s' → Q .next s') : wpAny (model prog w) A (exec fr3 env) Q E s := by
  rw [sh3f]
  refine for_rel G (evN_sound G KE) (fun i Hi _ => Hi = [.flist xs, .ns nmC, .list (xs.drop i)]) c (itC xs xs _) rfl (fun i v hv Hi Bi B' ρ' s' u E' inv g hB V S hu => ?_) fun s' Hn Bn ρ' g p inv sm hth => ?_
  · subst inv
    obtain ⟨t, rfl⟩ := hxs v (List.mem_of_getElem? hv)
    refine wpAny_assign_Name (wrVar_sound (wrC xs _ _) V S hu fun s₁ sm₁ S₁ => ?_)
    refine wpAny_execs_cons ?_
    obtain ⟨dT, hT, hTo⟩ := S₁.addr (k := 2) (o := .list (xs.drop i)) rfl
    have hd := drop_cons hv
    have hTo2 := hTo
    obtain ⟨z, vs, ⟨n, hg⟩, hvs⟩ := hTo2
    rw [hd] at hvs
    match vs, hvs, hg with
    | [], h, _ => exact h.elim
    | y :: vs, hvs, hg =>
      obtain ⟨hy, hvr⟩ := hvs
      rw [sh3e]
      refine wpAny_Expr (eval_remove (l := dT) (fun R hR => wpAny_Name (rdVar_sound G (rdT xs _ _) hB V S₁ fun x hx => ?_) (by decide +kernel)) hg rfl rfl (PySem.P.remove_list (wpAny_Name (rdVar_sound G (rdE xs _ _) hB V S₁ fun x hx => ?_) (by decide +kernel)))) (by unfold interactive; rw [V.kind]; rfl) rfl
      · obtain ⟨a, ha, rfl⟩ := hx
        rw [hT] at ha; cases ha
        exact hR
      · obtain ⟨_, k, rfl⟩ := hx
        have hz : (y :: vs).length ≤ lim := by
          have := (VRs.length (ρ := ρ') (as := .str t :: xs.drop (i + 1)) (vs := y :: vs) ⟨hy, hvr⟩)
          rw [this, ← hd]; exact z
        refine ⟨(y :: vs).toArray, n, eqS t, 0, by simp, ?_, hg, eqS_gives (ρ := ρ') (xs := .str t :: xs.drop (i + 1)) (vs := y :: vs) (fun x hx => hxs x (by rw [← hd] at hx; exact List.mem_of_mem_drop hx)) ⟨hy, hvr⟩ t k, ?_, fun m _ h => absurd h (Nat.not_lt_zero m), ?_⟩
        · have := lim_le; simp only [List.size_toArray]; omega
        · obtain ⟨_, k', rfl⟩ := hy
          simp [eqS]
        · have hg' := IsL.update hg (fun ys => ys.eraseIdxIfInBounds 0)
          have he : ((y :: vs).toArray.eraseIdxIfInBounds 0) = vs.toArray := by simp [Array.eraseIdxIfInBounds]
          rw [he] at hg'
          have Su := S₁.upd (o' := .list (xs.drop (i + 1))) hT rfl rfl (Heap.SameBut.update _ _ _) ⟨?_, vs, ⟨_, hg'⟩, hvr⟩ s₁.toks
          · refine wpAny_execs_nil ⟨rfl, [.flist xs, .ns nmC, .list (xs.drop (i + 1))], [], sm₁.trans (Same.mk s₁ _ s₁.toks), ns1_weaken Su ?_, ⟨s₁, _, S₁, Fresh.nil _ _⟩, fun _ _ _ => rfl⟩
            exact NsImp.cons (u := .obj 0) rfl (fun x h => h) (NsImp.cons (u := .obj 2) rfl (fun x h => h) NsImp.nil)
          · have := hvr.length
            have hz2 : vs.length + 1 ≤ lim := hz
            omega
  · subst inv
    have := hth _ rfl
    rw [List.drop_length] at this
    exact hQ s' Bn ρ' sm g p this
end
end Mine

namespace Mine
open PySem PySem.Calls PyProof.Rows PySem.W

section
variable {prog : Program} {w : World} {h₀ : Heap}
variable {B B' : Base} {ρ as as' ex : List Addr} {H H' H1 H2 Hx T : Hp} {s s' : Shared} {env envL : Env} {A : Around} {E : Value → Shared → Prop} {Q : Flow → Shared → Prop}

theorem kindVE : lkp (vS "ValueError") aeC.names = some .globalImplicit := by kernel_rfl
theorem globVE : lkp (vS "ValueError") cx2.glob = some (.bi .tVE) := by kernel_rfl
theorem load_VE (G : Gd prog w cx2 h₀) (V : EnvOk ρ aeC env) {M : Model} {Q : Value → Shared → Prop} (k : ∀ b o, h₀.get? b = some o → s.heap.get? b = some o) (h : Q (.type "ValueError") s) {p : Pos} : wpAny M A (eval (.Name (vS "ValueError") p) env) Q E s := by
  obtain ⟨u, hu, kk⟩ := G.glob _ _ globVE
  cases hu
  refine wpAny_Name ?_ (by decide +kernel)
  rcases V.names _ _ kindVE with q | q
  · unfold loadName
    simp only [Env.blockKind, V.kind, q, ScopeKind.isAnnotationScope, Bool.false_and, Bool.false_eq_true, if_false]
    exact kk _ _ _ _ _ _ V.glob V.bn k h
  · cases q.1

theorem nsData {h : Heap} {a : Addr} {f : Str → Option Value} (n : h.Ns a f) : ∃ o, h.get? a = some o ∧ ∀ vs, o.data ≠ .fields vs := by
  refine hide fun GG hGG => ?_
  obtain ⟨o, es, ep, ho, hd, _⟩ := n
  refine hGG ?_
  clear hGG GG
  exact ⟨o, ho, fun vs q => by rw [hd] at q; cases q⟩

theorem cmp_other (G : Gd prog w cx2 h₀) {xs ys xr : List AV} {x0 : Str} (hx : xs = .str x0 :: xr) (hys : ∀ x ∈ ys, ∃ t, x = AV.str t) (hno : ∀ t, AV.str t ∈ ys → t ≠ x0) {Ll : Addr} {fL : Str → Option Value}
    (c : Here h₀ B ρ aeC env [.flist xs, .ns nmC, .list ys] s A N2) (hfr : A.frames = some [env, envL]) (hf : env.frame = some env.locals) (hfL : envL.frame = some Ll) (hkL : envL.scope.kind ≠ .module)
    (hLl : ∀ o, s.heap.get? Ll = some o → B Ll = some o) (hnL : s.heap.Ns Ll fL) (h0L : h₀.get? Ll = none)
    (hQ : ∀ s', Same s s' → (∀ b o, b ≠ Ll → B b = some o → s'.heap.get? b = some o) → (∀ f, s.heap.Ns Ll f → s'.heap.Ns Ll f) → Q (.ret (.bool false)) s') : wpAny (model prog w) A (exec (cq 3) env) Q E s := by
  have hA := c.R.handled
  have V0 := c.V
  rw [sh3c]
  refine wpAny_Try_except (wpAny_execs_cons ?_)
  rw [sh3f]
  refine wpAny_For (wpAny_mono (items_sound G (evN_sound G KE) c (itC xs ys _)) (fun xv s₁ h₁ => wpAny_mono h₁ (fun it s₂ h₂ => ?_) fun _ _ e => e) fun _ _ e => e) (fun x => rfl)
  refine hide fun GG hGG => ?_
  obtain ⟨ρ₀, s₀, sm₀, p₀, ht, It0, fp, wr, P, Stt, ρ₂, rfl, Tt, st, sm₂, p₂, S₂, hap⟩ := h₂
  refine hGG ?_
  clear hGG GG
  refine codeAny_forLoop_any (fun n s' => s' = s₂) ?_ 1 rfl
  rintro n s' rfl
  have hlen : 0 < xs.length := by rw [hx]; simp
  refine (Tt.W A hA).item 0 _ _ _ hlen st fun u h₁ tk₁ hP st₁ hk₁ => ?_
  obtain ⟨a, hia, hav⟩ := Tt.val 0 u hP
  have ha0 : a = .str x0 := by rw [hx] at hia; exact (Option.some.inj hia).symm
  subst ha0
  have S₁ := S₂.step hk₁ (Tt.al 0 _ st) Tt.nb tk₁
  refine Tt.go _ _ _ _ _ _ _ st₁ ?_
  have V : EnvOk ρ₂ aeC env := V0.mono (p₀.trans p₂)
  refine wpAny_assign_Name (wrVar_sound (wrC xs ys _) V S₁ hav fun s₃ sm₃ S₃ => ?_)
  have sms : Same s s₃ := sm₀.trans (sm₂.trans ((Same.mk _ h₁ tk₁).trans sm₃))
  refine wpAny_execs_cons ?_
  refine hide fun GG hGG => ?_
  obtain ⟨dT, hT, hTo⟩ := S₃.addr (k := 2) (o := .list ys) rfl
  obtain ⟨z, vs, ⟨n', hg⟩, hvs⟩ := hTo
  refine hGG ?_
  clear hGG GG
  rw [sh3e]
  refine wpAny_Expr (eval_remove (l := dT) (fun R hR => wpAny_Name (rdVar_sound G (rdT xs ys _) c.hB V S₃ fun x hx => ?_) (by decide +kernel)) hg rfl rfl (remove_raises hA (wpAny_Name (rdVar_sound G (rdE xs ys _) c.hB V S₃ fun x hx => ?_) (by decide +kernel)))) (by unfold interactive; rw [V.kind]; rfl) rfl
  · refine hide fun GG hGG => ?_
    obtain ⟨q, hq, rfl⟩ := hx
    refine hGG ?_
    clear hGG GG
    rw [hT] at hq; cases hq
    exact hR
  · refine hide fun GG hGG => ?_
    obtain ⟨_, k, rfl⟩ := hx
    refine hGG ?_
    clear hGG GG
    refine ⟨vs.toArray, n', eqS x0, hg, eqS_gives hys hvs x0 k, fun m hm => ?_, fun h' tk exc hex => ?_⟩
    · have hmem : vs.toArray[m] ∈ vs := by simp
      refine hide fun GG hGG => ?_
      obtain ⟨y, hy, hr⟩ := hvs.mem' hmem
      obtain ⟨t, rfl⟩ := hys y hy
      obtain ⟨_, k', e⟩ := hr
      refine hGG ?_
      clear hGG GG
      rw [e]
      show (t == x0) = false
      exact beq_eq_false_iff_ne.mpr (hno t hy)
    · -- the raise: s₃.heap, then h'
      have hL : ρ₂[1]? = some env.locals := V.loc
      have hnC := S₃.objs 1 env.locals _ hL rfl
      refine hide fun GG hGG => ?_
      obtain ⟨fC, hnsC, _⟩ := hnC
      obtain ⟨oC, hoC, hdC⟩ := nsData hnsC
      have hBL : B env.locals = none := S₃.own 1 _ _ hL rfl rfl
      obtain ⟨oL, hoL, hdL⟩ := nsData hnL
      refine hGG ?_
      clear hGG GG
      have hBLl := hLl oL hoL
      have hne : env.locals ≠ Ll := fun e => by rw [e, hBLl] at hBL; cases hBL
      have hoL3 : s₃.heap.get? Ll = some oL := S₃.kept _ _ hBLl
      have bsub : (kill (kill s₃.heap env.locals) Ll).StaysIn s₃.heap := fun b o e => (kill_sub (kill_sub e).2).2
      have bn1 : (kill (kill s₃.heap env.locals) Ll).get? env.locals = none := by rw [kill_other hne, kill_self]
      have bn2 : (kill (kill s₃.heap env.locals) Ll).get? Ll = none := kill_self _ _
      have bin : ∀ b o, b ≠ env.locals → b ≠ Ll → s₃.heap.get? b = some o → (kill (kill s₃.heap env.locals) Ll).get? b = some o := fun b o e1 e2 e => by
        rw [kill_other e2, kill_other e1]; exact e
      have hff : s₃.heap.FunFrames (kill (kill s₃.heap env.locals) Ll) [env, envL] :=
        ⟨by rw [V.kind]; decide, ⟨env.locals, oC, hf, bn1, hoC, hdC⟩, hkL, ⟨Ll, oL, hfL, bn2, hoL3, hdL⟩, trivial⟩
      have h0b : ∀ b o, h₀.get? b = some o → (kill (kill s₃.heap env.locals) Ll).get? b = some o := fun b o e =>
        bin b o (fun q => by have := c.hB b o e; rw [q, hBL] at this; cases this) (fun q => by rw [q, h0L] at e; cases e) (S₃.kept b o (c.hB b o e))
      refine note_first hfr hf hex bsub hff fun h₄ X₄ U₄ => ?_
      refine came_back hf X₄ fun h₅ X₅ U₅ => ?_
      refine note_again hf X₅ ?_
      refine flight_none X₅ fun h₆ X₆ U₆ => ?_
      rw [sh3h]
      refine wpAny_handleBy_builtin (X := "ValueError") (T := "ValueError") (b := true) PySem.F.isExc_ValueError PySem.F.notTuple_ValueError PySem.F.self_ValueError (load_VE G V (fun b o e => X₆.stays b o (h0b b o e)) ⟨rfl, ?_, ?_⟩)
      · refine hide fun GG hGG => ?_
        obtain ⟨a0, oe, _, _, _, _, he, hcl, _⟩ := X₆.traced
        refine hGG ?_
        clear hGG GG
        exact ⟨oe, he, hcl.1⟩
      · simp only [if_true]
        refine flight_none X₆ fun h₇ X₇ U₇ => wpAny_execs_cons ?_
        rw [sh3r]
        refine wpAny_Return_some (wpAny_Constant_bool ?_)
        refine hQ _ (sms.trans (Same.mk s₃ h₇ tk)) (fun b o hb e => ?_) fun f hfn => ?_
        · exact X₇.stays b o (bin b o (fun q => by rw [q, hBL] at e; cases e) hb (S₃.kept b o e))
        · have h3 : s₃.heap.Ns Ll f := hfn.at' fun o e => S₃.kept _ _ (hLl o e)
          exact (((U₄.trans U₅).trans U₆).trans U₇).ns h3
end
end Mine

namespace Mine
open PySem PySem.Calls PyProof.Rows PySem.W

noncomputable def sameC (m m' : Nat) : Bool := Nat.beq (repA m) (repA m')
theorem apart64 : (reps.all fun r => reps.all fun r' => Nat.beq r r' || !((chainA r').any (Nat.beq r))) = true := by kernel_rfl
theorem heads64 : (m64.all fun m => match chainA m with | h :: _ => Nat.beq h (repA m) | [] => false) = true := by kernel_rfl
theorem small64 : (m64.all fun m => (chainA m).all fun t => Nat.blt t 64) = true := by kernel_rfl
theorem chain_head {m : Nat} (h : m < 64) : ∃ r, chainA m = repA m :: r := by
  have := List.all_eq_true.mp heads64 m (mem64 h)
  split at this
  · rename_i x r e; rw [Nat.eq_of_beq_eq_true this] at e; exact ⟨r, e⟩
  · cases this
theorem rep_lt {m : Nat} (h : m < 64) : repA m < 64 := by
  obtain ⟨r, e⟩ := chain_head h
  have := List.all_eq_true.mp (List.all_eq_true.mp small64 m (mem64 h)) (repA m) (by rw [e]; exact List.mem_cons_self)
  exact Nat.le_of_ble_eq_true this
theorem same_chain {m m' : Nat} (h : m < 64) (h' : m' < 64) (e : sameC m m' = true) : chainA m = chainA m' := by
  have := Nat.eq_of_beq_eq_true e
  rw [(rep_eq h).1, (rep_eq h').1, this]
theorem other_chain {m m' : Nat} (h : m < 64) (h' : m' < 64) (e : sameC m m' = false) : ∀ t, AV.str t ∈ avRows (chainA m') → t ≠ rowS (repA m) := by
  intro t ht hq
  subst hq
  unfold avRows at ht
  obtain ⟨k, hk, e1⟩ := List.mem_map.mp ht
  have e2 : rowS k = rowS (repA m) := AV.str.inj e1
  have hk64 : k < 64 := Nat.le_of_ble_eq_true (List.all_eq_true.mp (List.all_eq_true.mp small64 m' (mem64 h')) k hk)
  have e3 : k = repA m := by
    have h1 := modeOf_row hk64
    rw [e2, modeOf_row (rep_lt h)] at h1
    exact (Option.some.inj h1).symm
  rw [(rep_eq h').1, e3] at hk
  have := List.all_eq_true.mp (List.all_eq_true.mp apart64 _ (rep_eq h).2.2.2) _ (rep_eq h').2.2.2
  rw [Bool.or_eq_true] at this
  rcases this with q | q
  · unfold sameC at e; rw [e] at q; cases q
  · have : (chainA (repA m')).any (Nat.beq (repA m)) = true := List.any_eq_true.mpr ⟨_, hk, Nat.beq_refl _⟩
    rw [this] at q; cases q
theorem avRows_strs {l : List Nat} : ∀ x ∈ avRows l, ∃ t, x = AV.str t := fun x hx => by
  obtain ⟨k, _, e⟩ := List.mem_map.mp hx; exact ⟨_, e.symm⟩
theorem chainRows {m : Nat} (h : m < 64) : ∃ r, avRows (chainA m) = .str (rowS (repA m)) :: r := by
  obtain ⟨r, e⟩ := chain_head h
  rw [e]; exact ⟨_, rfl⟩

theorem noCellC : (cmpScope.names.all fun x => match x.2 with | .cell => false | _ => true) = true := by kernel_rfl
theorem lk1C : cmpScope.names.lookup (vS "first_args") = some .local := by kernel_rfl
theorem lk2C : cmpScope.names.lookup (vS "second_args") = some .local := by kernel_rfl
theorem neC : (vS "first_args" == vS "second_args") = false := by decide +kernel
theorem sh4r : cq 4 = .Return (some (retVal (cq 4))) (stPos (cq 4)) := by kernel_rfl
theorem run4c (xs : List AV) : sReturn evL aeC [.flist xs, .ns nmC, .list []] (cE 40 (retVal (cq 4))) = some (.ret (.bool true), [.flist xs, .ns nmC, .list []]) := by kernel_rfl
theorem env_C {scope : Scope} {L x : Addr} {qual : Str} {code : Value} (hk : scope.kind = .function) (hs : scope = cmpScope) {as : List Addr} (hl : as[1]? = some L) : EnvOk as aeC (newEnv scope L mainGlobals [] qual (some x) code none builtinsNs) := by
  subst hs
  exact ⟨hk, rfl, rfl, hl, fun x k e => .inl (by show cmpScope.names.lookup x = some k; rw [← lkp_eq]; exact e), fun x k e => by cases e⟩

section
variable {prog : Program} {w : World} {h₀ : Heap}
variable {B B' : Base} {ρ as as' ex : List Addr} {H H' H1 H2 Hx T : Hp} {s s' : Shared} {env envL : Env} {A : Around} {E : Value → Shared → Prop} {Q : Value → Shared → Prop}

theorem cmp_call (G : Gd prog w cx2 h₀) (FX : Fx h₀) {m m' : Nat} (hm : m < 64) (hm' : m' < 64) {dk dj Ll : Addr} {fL : Str → Option Value} (hA : Rm A (N2 + 1)) (hfr : A.frames = some [envL]) (hfL : envL.frame = some Ll) (hkL : envL.scope.kind ≠ .module)
    (pk : ∀ as, ObjIs as s.heap dk (.flist (avRows (chainA m)))) (pj : ∀ as, ObjIs as s.heap dj (.flist (avRows (chainA m')))) (hnL : s.heap.Ns Ll fL) (h0k : ∀ b o, h₀.get? b = some o → s.heap.get? b = some o) (h0L : h₀.get? Ll = none)
    (hQ : ∀ s', Same s s' → (∀ b o, b ≠ Ll → s.heap.get? b = some o → s'.heap.get? b = some o) → (∀ f, s.heap.Ns Ll f → s'.heap.Ns Ll f) → Q (.bool (sameC m m')) s') : wpAny (model prog w) A (call (.ref 190) [.ref dk, .ref dj]) Q E s := by
  cases h190 : fdAt 190 with
  | none => have := st190; unfold fnStat at this; rw [h190] at this; cases this
  | some fd =>
    have F := ok_two FX h190 st190 bind190
    have hb : fd.body = .stmts cmpBody := by have := cb190; rw [h190] at this; exact this
    have hsc : fd.scope = cmpScope := by have := cs190; rw [h190] at this; exact this
    have har : fd.params.args.map (·.arg) = [vS "first_args", vS "second_args"] := by have := ca190; rw [h190] at this; exact this
    have hva : fd.params.vararg = none := by
      have := cv190; rw [h190] at this
      replace this : fd.params.vararg.isSome = false := this
      cases hv : fd.params.vararg with
      | none => rfl
      | some v => rw [hv] at this; cases this
    obtain ⟨o, ho, hdat⟩ := F.obj
    refine wpAny_call (codeAny_call_function (by have := hA.depth; show A.depth < 1000; omega) (h0k _ _ ho) hdat F.co F.gen hb (F.code.keeps h0k) ?_)
    refine F.binds hva [.ref dk, .ref dj] s (by rw [har]; rfl) _ _ _ _ ?_
    rw [har, F.clos, F.glob, F.bn]
    have hcell : ∀ x ∈ fd.scope.names, x.2 ≠ .cell := fun x hx e => by
      rw [hsc] at hx
      have := List.all_eq_true.mp noCellC x hx
      rw [e] at this; cases this
    refine wpAny_newFunctionEnv (hk := F.kind) hcell (fun x hx => ?_) fun h' hns hsb => ?_
    · simp only [List.zip_cons_cons, List.zip_nil_right, List.mem_cons, List.not_mem_nil, or_false] at hx
      rw [hsc]
      rcases hx with rfl | rfl
      · exact lk1C
      · exact lk2C
    generalize hL : s.heap.objs.size = L at hns hsb
    generalize htk : s.toks + ((([vS "first_args", vS "second_args"] : List Str).zip [Value.ref dk, .ref dj]).length) = tk
    have kp : ∀ b o, s.heap.get? b = some o → h'.get? b = some o := fun b o e => (hsb.2 b (by rw [← hL]; exact Nat.ne_of_lt (Heap.lt_size e))).trans (Heap.get?_push_of_some _ e)
    have nL : ∀ {b o}, s.heap.get? b = some o → b ≠ L := fun {b o} e => by rw [← hL]; exact Nat.ne_of_lt (Heap.lt_size e)
    refine ⟨G.nolimit.keeps fun b o e => kp b o (h0k b o e), codeAny_func ?_⟩
    have hfe : (newEnv fd.scope L mainGlobals [] (fd.qualname ++ ".<locals>.") (some 190) fd.code none builtinsNs).frame = some L := rfl
    have hle : (newEnv fd.scope L mainGlobals [] (fd.qualname ++ ".<locals>.") (some 190) fd.code none builtinsNs).locals = L := rfl
    have VC : ∀ {as : List Addr}, as[1]? = some L → EnvOk as aeC (newEnv fd.scope L mainGlobals [] (fd.qualname ++ ".<locals>.") (some 190) fd.code none builtinsNs) := fun hl => env_C F.kind hsc hl
    generalize newEnv fd.scope L mainGlobals [] (fd.qualname ++ ".<locals>.") (some 190) fd.code none builtinsNs = env at hfe hle VC
    have hfrC : (A.deeper env).frames = some [env, envL] := Around.frames_deeper hfr
    have RC : Rm (A.deeper env) N2 := hA.deeper env
    obtain ⟨ok, hok⟩ := (pk []).stands
    obtain ⟨oj, hoj⟩ := (pj []).stands
    have S2 : St (Base.less [L] h') [dk, L] [.flist (avRows (chainA m)), .ns [(vS "first_args", .obj 0), (vS "second_args", .gref dj)]] { s with heap := h', toks := tk } := by
      refine small_st (s := { s with heap := h', toks := tk }) (as := [dk, L]) (Hs := [.flist (avRows (chainA m)), .ns [(vS "first_args", .obj 0), (vS "second_args", .gref dj)]]) rfl (by simp [nL hok]) (fun i a o e1 e2 hmt => ?_) fun i a o e1 e2 => ?_
      · match i, e1, e2 with
        | 0, _, e2 => cases e2; cases hmt
        | 1, e1, _ => cases e1; simp
      · match i, e1, e2 with
        | 0, e1, e2 => cases e1; cases e2; exact (pk _).mono (List.prefix_refl _) fun o e => kp _ o e
        | 1, e1, e2 =>
          cases e1; cases e2
          refine ⟨_, hns, fun y v e => ?_⟩
          simp only [lkp] at e
          split at e
          · rename_i hs
            cases e
            have := seq_iff.mp hs; subst this
            refine ⟨.ref dk, ?_, dk, rfl, rfl⟩
            show List.lookup (vS "first_args") [(vS "second_args", Value.ref dj), (vS "first_args", Value.ref dk)] = _
            rw [List.lookup_cons, neC]
            simp
          · refine ooT e ?_
            clear e; intros; rename_i hs e
            cases e
            have := seq_iff.mp hs; subst this
            refine ⟨.ref dj, ?_, rfl⟩
            show List.lookup (vS "second_args") [(vS "second_args", Value.ref dj), (vS "first_args", Value.ref dk)] = _
            simp
    have base : ∀ (h : Heap), (∀ b o, s.heap.get? b = some o → h.get? b = some o) → ∀ b o, h₀.get? b = some o → Base.less [L] h b = some o := fun h k b o e =>
      less_of (by simp [nL (h0k b o e)]) (k b o (h0k b o e))
    have I := evN_sound G KE
    have EN := enum_sound G I
    rw [body5]
    refine wpAny_execs_cons ?_
    refine wpAny_mono (s_sound G I EN ⟨base _ kp, VC rfl, S2, RC⟩ (allN runPC1 m hm dj)) (fun f s₃ q => ?_) fun _ _ e => e
    refine hide fun GG hGG => ?_
    obtain ⟨sm₃, as1, p₁, hf, S₃⟩ := q
    cases hf
    have kp3 : ∀ b o, s.heap.get? b = some o → s₃.heap.get? b = some o := fun b o e => less_kept S₃ b o (by simp [nL e]) (kp b o e)
    have hL1 : as1[1]? = some L := get_pre p₁ rfl
    obtain ⟨dF, oF, vF, hdF, nF, kF, zF, ⟨qF, rfl⟩, rF⟩ := small_list (s₁ := { s with heap := h', toks := tk }) S₃ (j := 2) (xs := avRows (chainA m)) rfl fun x e h => by
      rw [List.mem_singleton.mp h] at e
      have := S₃.inj e hL1
      omega
    refine hGG ?_
    clear hGG GG
    have hFL : dF ≠ L := fun e => by rw [e] at hdF; have := S₃.inj hdF hL1; omega
    have S₄ : St (Base.less [L] s₃.heap) [dj, L] [.flist (avRows (chainA m')), .ns [(vS "second_args", .obj 0), (vS "first_unhashable", .gref dF)]] s₃ := by
      refine small_st rfl (by simp [nL hoj]) (fun i a o e1 e2 hmt => ?_) fun i a o e1 e2 => ?_
      · match i, e1, e2 with
        | 0, _, e2 => cases e2; cases hmt
        | 1, e1, _ => cases e1; simp
      · match i, e1, e2 with
        | 0, e1, e2 => cases e1; cases e2; exact (pj _).mono (List.prefix_refl _) fun o e => kp3 _ o e
        | 1, e1, e2 =>
          cases e1; cases e2
          refine (S₃.objs 1 L _ hL1 rfl).nsImp (NsImp.cons (u := .gref dj) rfl (fun x h => ⟨dj, rfl, h⟩) (NsImp.cons (u := .obj 2) rfl (fun x ⟨a, h1, h2⟩ => ?_) NsImp.nil))
          rw [hdF] at h1; cases h1
          exact h2
    refine wpAny_execs_cons ?_
    have c4 : Here h₀ (Base.less [L] s₃.heap) [dj, L] aeC env _ s₃ (A.deeper env) N2 := ⟨base _ kp3, VC rfl, S₄, RC⟩
    refine wpAny_mono (s_sound G I EN c4 (allN runPC2 m' hm' dF)) (fun f s₄ q => ?_) fun _ _ e => e
    refine hide fun GG hGG => ?_
    obtain ⟨sm₄, as2, p₂, hf, S₅⟩ := q
    refine hGG ?_
    clear hGG GG
    cases hf
    refine wpAny_execs_cons ?_
    refine wpAny_mono (s_sound G I EN (c4.next p₂ S₅) (allN runPC3 m' hm' dF)) (fun f s₅ q => ?_) fun _ _ e => e
    refine hide fun GG hGG => ?_
    obtain ⟨sm₅, as3, p₃, hf, S₆⟩ := q
    cases hf
    have p23 := p₂.trans p₃
    have kp5 : ∀ b o, s₃.heap.get? b = some o → b ≠ L → s₅.heap.get? b = some o := fun b o e hb => less_kept S₆ b o (by simp [hb]) e
    have hL3 : as3[1]? = some L := get_pre p23 rfl
    obtain ⟨dT, oT, vT, hdT, nT, kT, zT, ⟨qT, rfl⟩, rT⟩ := small_list S₆ (j := 3) (xs := avRows (chainA m')) rfl fun x e h => by
      rw [List.mem_singleton.mp h] at e
      have := S₆.inj e hL3
      omega
    have hTL : dT ≠ L := fun e => by rw [e] at hdT; have := S₆.inj hdT hL3; omega
    have hFT : dF ≠ dT := fun e => by rw [e, nT] at kF; cases kF
    have kps : ∀ b o, s.heap.get? b = some o → s₅.heap.get? b = some o := fun b o e => kp5 b o (kp3 b o e) (nL e)
    have nT' : ∀ {b o}, s.heap.get? b = some o → b ≠ dT := fun {b o} e h => by rw [h] at e; have := kp3 _ _ e; rw [nT] at this; cases this
    have S₇ : St (Base.less [L, dT] s₅.heap) [dF, L, dT] [.flist (avRows (chainA m)), .ns nmC, .list (avRows (chainA m'))] s₅ := by
      refine small_st rfl (by simp [hFL, hFT, Ne.symm hTL]) (fun i a o e1 e2 hmt => ?_) fun i a o e1 e2 => ?_
      · match i, e1, e2 with
        | 0, _, e2 => cases e2; cases hmt
        | 1, e1, _ => cases e1; simp
        | 2, e1, _ => cases e1; simp
      · match i, e1, e2 with
        | 0, e1, e2 => cases e1; cases e2; exact ⟨zF, vF, ⟨qF, kp5 _ _ kF hFL⟩, rF.imm (avRows_imm _)⟩
        | 1, e1, e2 =>
          cases e1; cases e2
          refine (S₆.objs 1 L _ hL3 rfl).nsImp (NsImp.cons (u := .gref dF) rfl (fun x h => ⟨dF, rfl, h⟩) (NsImp.cons (u := .obj 3) rfl (fun x ⟨a, h1, h2⟩ => ?_) NsImp.nil))
          rw [hdT] at h1; cases h1
          exact ⟨dT, rfl, h2⟩
        | 2, e1, e2 => cases e1; cases e2; exact ⟨zT, vT, ⟨qT, kT⟩, rT.imm (avRows_imm _)⟩
    have base7 : ∀ b o, s.heap.get? b = some o → Base.less [L, dT] s₅.heap b = some o := fun b o e => less_of (by simp [nL e, nT' e]) (kps b o e)
    have c7 : Here h₀ (Base.less [L, dT] s₅.heap) [dF, L, dT] aeC env _ s₅ (A.deeper env) N2 := ⟨fun b o e => base7 b o (h0k b o e), VC rfl, S₇, RC⟩
    have sms : Same s s₅ := (Same.mk s h' tk).trans (sm₃.trans (sm₄.trans sm₅))
    obtain ⟨oL, hoL, _⟩ := nsData hnL
    refine hGG ?_
    clear hGG GG
    refine wpAny_execs_cons ?_
    cases hsm : sameC m m' with
    | true =>
      have he := same_chain hm hm' hsm
      rw [← he] at c7
      rw [sh3c]
      refine wpAny_Try_except (wpAny_execs_cons (cmp_same G avRows_strs c7 fun s₆ B6 ρ6 sm₆ g6 p6 S₈ => wpAny_execs_nil (wpAny_execs_nil ?_)))
      refine wpAny_execs_cons ?_
      rw [sh4r]
      have c8 : Here h₀ B6 ρ6 aeC env _ s₆ (A.deeper env) N2 := ⟨fun b o e => g6 _ _ (base7 b o (h0k b o e)), (VC rfl : EnvOk [dF, L, dT] aeC env).mono p6, S₈, RC⟩
      refine nxt (ret_sound I c8 (run4c _)) fun f s₇ ρ7 sm₇ p7 hf S₉ => ?_
      refine hide fun GG hGG => ?_
      obtain ⟨x, rfl, hx⟩ := hf
      refine hGG ?_
      clear hGG GG
      cases hx
      have kk : ∀ b o, s.heap.get? b = some o → s₇.heap.get? b = some o := fun b o e => S₉.kept b o (g6 _ _ (base7 b o e))
      have := hQ s₇ (sms.trans (sm₆.trans sm₇)) (fun b o _ e => kk b o e) (fun f hf => hf.at' fun o e => kk _ o e)
      rw [hsm] at this
      exact this
    | false =>
      obtain ⟨r, hr⟩ := chainRows hm
      refine cmp_other G (envL := envL) hr avRows_strs (other_chain hm hm' hsm) c7 hfrC (by rw [hfe, hle]) hfL hkL (fun o e => ?_) (hnL.at' fun o e => kps _ o e) h0L fun s₆ sm₆ k1 k2 => ?_
      · have : o = oL := Option.some.inj (e.symm.trans (kps _ _ hoL))
        rw [this]; exact base7 _ _ hoL
      · have := hQ s₆ (sms.trans sm₆) (fun b o hb e => k1 b o hb (base7 b o e)) (fun f hf => k2 f (hf.at' fun o e => kps _ o e))
        rw [hsm] at this
        exact this
end
end Mine

namespace Mine
open PySem PySem.Calls PyProof.Rows PySem.W

noncomputable abbrev k10 : Stmt := firstS (stBody (lawSt 10))
noncomputable abbrev i10 : Stmt := firstS (stBody k10)
noncomputable abbrev l10 : PySem.Expr := cmpL (stVal i10)
noncomputable abbrev r10 : PySem.Expr := cmpR (stVal i10)
theorem sh10b : stBody (lawSt 10) = [k10] := by kernel_rfl
theorem sh10k : k10 = .For (.Name (vS "j") (exPos (stTgt k10))) (stVal k10) [i10] [] (stPos k10) := by kernel_rfl
theorem sh10i : i10 = .If (.Compare (.Call (.Name (vS "_compare_args_orderless") (exPos (callFn l10))) (callArgs l10) [] (exPos l10)) [.NotEq] [.Compare (cmpL r10) [.Eq] [cmpR r10] (exPos r10)] (exPos (stVal i10))) (stBody i10) [] (stPos i10) := by kernel_rfl
theorem lone10 : (callArgs l10).length = 2 := by kernel_rfl
theorem marks10 : behindInMarks .Eq (cmpR r10) = false := by kernel_rfl
noncomputable abbrev nmK (v : AV) : List (Str × AV) := [(vS "rows", .obj 11), (vS "chains", .obj 12), (vS "k", v)]
noncomputable abbrev nmJ (v u : AV) : List (Str × AV) := [(vS "rows", .obj 11), (vS "chains", .obj 12), (vS "k", v), (vS "j", u)]
noncomputable abbrev HN (nm : List (Str × AV)) (a b d e ms rs qs cs ks : List AV) : Hp := HL nm none (some (.obj 13)) none none (P4 a b d e ++ [.list ms, .list rs, .list qs, .list cs, .list ks])
theorem wrK (v : AV) (a b d e ms rs qs cs ks : List AV) : wrVar aeL (HN nm5 a b d e ms rs qs cs ks) (vS "k") v = some (HN (nmK v) a b d e ms rs qs cs ks) := by kernel_rfl
theorem wrJ (v u : AV) (a b d e ms rs qs cs ks : List AV) : wrVar aeL (HN (nmK v) a b d e ms rs qs cs ks) (vS "j") u = some (HN (nmJ v u) a b d e ms rs qs cs ks) := by kernel_rfl
theorem nm10 (v u : AV) (a b d e ms rs qs cs ks : List AV) : eName cx2 aeL (HN (nmJ v u) a b d e ms rs qs cs ks) (vS "_compare_args_orderless") = some (.fn 190, HN (nmJ v u) a b d e ms rs qs cs ks) := by kernel_rfl
theorem itK2 (a b d e ms rs cs ks : List AV) (q0 q1 : AV) : itemsOf cx2 evL aeL (HN nm5 a b d e ms rs [q0, q1] cs ks) (cE 40 (stVal (lawSt 10))) = some (avInts (List.range 2), none, HN nm5 a b d e ms rs [q0, q1] cs ks) := by kernel_rfl
theorem itK3 (a b d e ms rs cs ks : List AV) (q0 q1 q2 : AV) : itemsOf cx2 evL aeL (HN nm5 a b d e ms rs [q0, q1, q2] cs ks) (cE 40 (stVal (lawSt 10))) = some (avInts (List.range 3), none, HN nm5 a b d e ms rs [q0, q1, q2] cs ks) := by kernel_rfl
theorem itK4 (a b d e ms rs cs ks : List AV) (q0 q1 q2 q3 : AV) : itemsOf cx2 evL aeL (HN nm5 a b d e ms rs [q0, q1, q2, q3] cs ks) (cE 40 (stVal (lawSt 10))) = some (avInts (List.range 4), none, HN nm5 a b d e ms rs [q0, q1, q2, q3] cs ks) := by kernel_rfl
theorem itJ0 (a b d e ms rs qs cs ks : List AV) : itemsOf cx2 evL aeL (HN (nmK (.int (.ofNat 0))) a b d e ms rs qs cs ks) (cE 40 (stVal k10)) = some (avInts (List.range 0), none, HN (nmK (.int (.ofNat 0))) a b d e ms rs qs cs ks) := by kernel_rfl
theorem itJ1 (a b d e ms rs qs cs ks : List AV) : itemsOf cx2 evL aeL (HN (nmK (.int (.ofNat 1))) a b d e ms rs qs cs ks) (cE 40 (stVal k10)) = some (avInts (List.range 1), none, HN (nmK (.int (.ofNat 1))) a b d e ms rs qs cs ks) := by kernel_rfl
theorem itJ2 (a b d e ms rs qs cs ks : List AV) : itemsOf cx2 evL aeL (HN (nmK (.int (.ofNat 2))) a b d e ms rs qs cs ks) (cE 40 (stVal k10)) = some (avInts (List.range 2), none, HN (nmK (.int (.ofNat 2))) a b d e ms rs qs cs ks) := by kernel_rfl
theorem itJ3 (a b d e ms rs qs cs ks : List AV) : itemsOf cx2 evL aeL (HN (nmK (.int (.ofNat 3))) a b d e ms rs qs cs ks) (cE 40 (stVal k10)) = some (avInts (List.range 3), none, HN (nmK (.int (.ofNat 3))) a b d e ms rs qs cs ks) := by kernel_rfl
/-- the items of a list of one length -/
noncomputable def Look (n i j : Nat) : Prop := ∀ (a b d e ms rs qs cs ks : List AV), cs.length = n → ks.length = n → ∃ ci cj ki kj, cs[i]? = some ci ∧ cs[j]? = some cj ∧ ks[i]? = some ki ∧ ks[j]? = some kj ∧
  evList (evL.e aeL) (HN (nmJ (.int (.ofNat i)) (.int (.ofNat j))) a b d e ms rs qs cs ks) ((callArgs l10).map (cE 40)) = some ([ci, cj], HN (nmJ (.int (.ofNat i)) (.int (.ofNat j))) a b d e ms rs qs cs ks) ∧
  evL.e aeL (HN (nmJ (.int (.ofNat i)) (.int (.ofNat j))) a b d e ms rs qs cs ks) (cE 40 (cmpL r10)) = some (ki, HN (nmJ (.int (.ofNat i)) (.int (.ofNat j))) a b d e ms rs qs cs ks) ∧
  evL.e aeL (HN (nmJ (.int (.ofNat i)) (.int (.ofNat j))) a b d e ms rs qs cs ks) (cE 40 (cmpR r10)) = some (kj, HN (nmJ (.int (.ofNat i)) (.int (.ofNat j))) a b d e ms rs qs cs ks)
theorem el2 {l : List AV} (h : l.length = 2) : ∃ a b, l = [a, b] := by
  obtain ⟨a, l1, e0, z0⟩ := len_succ h
  obtain ⟨b, l2, e1, z1⟩ := len_succ z0
  exact ⟨a, b, by rw [e0, e1, List.length_eq_zero_iff.mp z1]⟩
theorem el3 {l : List AV} (h : l.length = 3) : ∃ a b c, l = [a, b, c] := by
  obtain ⟨a, l1, e0, z0⟩ := len_succ h
  obtain ⟨b, c, e1⟩ := el2 z0
  exact ⟨a, b, c, by rw [e0, e1]⟩
theorem el4 {l : List AV} (h : l.length = 4) : ∃ a b c d, l = [a, b, c, d] := by
  obtain ⟨a, l1, e0, z0⟩ := len_succ h
  obtain ⟨b, c, d, e1⟩ := el3 z0
  exact ⟨a, b, c, d, by rw [e0, e1]⟩
theorem lka2_1_0 (a b d e ms rs qs : List AV) (c0 c1 k0 k1 : AV) : evList (evL.e aeL) (HN (nmJ (.int (.ofNat 1)) (.int (.ofNat 0))) a b d e ms rs qs [c0, c1] [k0, k1]) ((callArgs l10).map (cE 40)) = some ([c1, c0], HN (nmJ (.int (.ofNat 1)) (.int (.ofNat 0))) a b d e ms rs qs [c0, c1] [k0, k1]) := by kernel_rfl
theorem lkb2_1_0 (a b d e ms rs qs : List AV) (c0 c1 k0 k1 : AV) : evL.e aeL (HN (nmJ (.int (.ofNat 1)) (.int (.ofNat 0))) a b d e ms rs qs [c0, c1] [k0, k1]) (cE 40 (cmpL r10)) = some (k1, HN (nmJ (.int (.ofNat 1)) (.int (.ofNat 0))) a b d e ms rs qs [c0, c1] [k0, k1]) := by kernel_rfl
theorem lkc2_1_0 (a b d e ms rs qs : List AV) (c0 c1 k0 k1 : AV) : evL.e aeL (HN (nmJ (.int (.ofNat 1)) (.int (.ofNat 0))) a b d e ms rs qs [c0, c1] [k0, k1]) (cE 40 (cmpR r10)) = some (k0, HN (nmJ (.int (.ofNat 1)) (.int (.ofNat 0))) a b d e ms rs qs [c0, c1] [k0, k1]) := by kernel_rfl
theorem look2_1_0 : Look 2 1 0 := fun a b d e ms rs qs cs ks hc hk => by
  obtain ⟨c0, c1, rfl⟩ := el2 hc
  obtain ⟨k0, k1, rfl⟩ := el2 hk
  exact ⟨c1, c0, k1, k0, rfl, rfl, rfl, rfl, lka2_1_0 a b d e ms rs qs c0 c1 k0 k1, lkb2_1_0 a b d e ms rs qs c0 c1 k0 k1, lkc2_1_0 a b d e ms rs qs c0 c1 k0 k1⟩
theorem lka3_1_0 (a b d e ms rs qs : List AV) (c0 c1 c2 k0 k1 k2 : AV) : evList (evL.e aeL) (HN (nmJ (.int (.ofNat 1)) (.int (.ofNat 0))) a b d e ms rs qs [c0, c1, c2] [k0, k1, k2]) ((callArgs l10).map (cE 40)) = some ([c1, c0], HN (nmJ (.int (.ofNat 1)) (.int (.ofNat 0))) a b d e ms rs qs [c0, c1, c2] [k0, k1, k2]) := by kernel_rfl
theorem lkb3_1_0 (a b d e ms rs qs : List AV) (c0 c1 c2 k0 k1 k2 : AV) : evL.e aeL (HN (nmJ (.int (.ofNat 1)) (.int (.ofNat 0))) a b d e ms rs qs [c0, c1, c2] [k0, k1, k2]) (cE 40 (cmpL r10)) = some (k1, HN (nmJ (.int (.ofNat 1)) (.int (.ofNat 0))) a b d e ms rs qs [c0, c1, c2] [k0, k1, k2]) := by kernel_rfl
theorem lkc3_1_0 (a b d e ms rs qs : List AV) (c0 c1 c2 k0 k1 k2 : AV) : evL.e aeL (HN (nmJ (.int (.ofNat 1)) (.int (.ofNat 0))) a b d e ms rs qs [c0, c1, c2] [k0, k1, k2]) (cE 40 (cmpR r10)) = some (k0, HN (nmJ (.int (.ofNat 1)) (.int (.ofNat 0))) a b d e ms rs qs [c0, c1, c2] [k0, k1, k2]) := by kernel_rfl
theorem look3_1_0 : Look 3 1 0 := fun a b d e ms rs qs cs ks hc hk => by
  obtain ⟨c0, c1, c2, rfl⟩ := el3 hc
  obtain ⟨k0, k1, k2, rfl⟩ := el3 hk
  exact ⟨c1, c0, k1, k0, rfl, rfl, rfl, rfl, lka3_1_0 a b d e ms rs qs c0 c1 c2 k0 k1 k2, lkb3_1_0 a b d e ms rs qs c0 c1 c2 k0 k1 k2, lkc3_1_0 a b d e ms rs qs c0 c1 c2 k0 k1 k2⟩
theorem lka3_2_0 (a b d e ms rs qs : List AV) (c0 c1 c2 k0 k1 k2 : AV) : evList (evL.e aeL) (HN (nmJ (.int (.ofNat 2)) (.int (.ofNat 0))) a b d e ms rs qs [c0, c1, c2] [k0, k1, k2]) ((callArgs l10).map (cE 40)) = some ([c2, c0], HN (nmJ (.int (.ofNat 2)) (.int (.ofNat 0))) a b d e ms rs qs [c0, c1, c2] [k0, k1, k2]) := by kernel_rfl
theorem lkb3_2_0 (a b d e ms rs qs : List AV) (c0 c1 c2 k0 k1 k2 : AV) : evL.e aeL (HN (nmJ (.int (.ofNat 2)) (.int (.ofNat 0))) a b d e ms rs qs [c0, c1, c2] [k0, k1, k2]) (cE 40 (cmpL r10)) = some (k2, HN (nmJ (.int (.ofNat 2)) (.int (.ofNat 0))) a b d e ms rs qs [c0, c1, c2] [k0, k1, k2]) := by kernel_rfl
theorem lkc3_2_0 (a b d e ms rs qs : List AV) (c0 c1 c2 k0 k1 k2 : AV) : evL.e aeL (HN (nmJ (.int (.ofNat 2)) (.int (.ofNat 0))) a b d e ms rs qs [c0, c1, c2] [k0, k1, k2]) (cE 40 (cmpR r10)) = some (k0, HN (nmJ (.int (.ofNat 2)) (.int (.ofNat 0))) a b d e ms rs qs [c0, c1, c2] [k0, k1, k2]) := by kernel_rfl
theorem look3_2_0 : Look 3 2 0 := fun a b d e ms rs qs cs ks hc hk => by
  obtain ⟨c0, c1, c2, rfl⟩ := el3 hc
  obtain ⟨k0, k1, k2, rfl⟩ := el3 hk
  exact ⟨c2, c0, k2, k0, rfl, rfl, rfl, rfl, lka3_2_0 a b d e ms rs qs c0 c1 c2 k0 k1 k2, lkb3_2_0 a b d e ms rs qs c0 c1 c2 k0 k1 k2, lkc3_2_0 a b d e ms rs qs c0 c1 c2 k0 k1 k2⟩
theorem lka3_2_1 (a b d e ms rs qs : List AV) (c0 c1 c2 k0 k1 k2 : AV) : evList (evL.e aeL) (HN (nmJ (.int (.ofNat 2)) (.int (.ofNat 1))) a b d e ms rs qs [c0, c1, c2] [k0, k1, k2]) ((callArgs l10).map (cE 40)) = some ([c2, c1], HN (nmJ (.int (.ofNat 2)) (.int (.ofNat 1))) a b d e ms rs qs [c0, c1, c2] [k0, k1, k2]) := by kernel_rfl
theorem lkb3_2_1 (a b d e ms rs qs : List AV) (c0 c1 c2 k0 k1 k2 : AV) : evL.e aeL (HN (nmJ (.int (.ofNat 2)) (.int (.ofNat 1))) a b d e ms rs qs [c0, c1, c2] [k0, k1, k2]) (cE 40 (cmpL r10)) = some (k2, HN (nmJ (.int (.ofNat 2)) (.int (.ofNat 1))) a b d e ms rs qs [c0, c1, c2] [k0, k1, k2]) := by kernel_rfl
theorem lkc3_2_1 (a b d e ms rs qs : List AV) (c0 c1 c2 k0 k1 k2 : AV) : evL.e aeL (HN (nmJ (.int (.ofNat 2)) (.int (.ofNat 1))) a b d e ms rs qs [c0, c1, c2] [k0, k1, k2]) (cE 40 (cmpR r10)) = some (k1, HN (nmJ (.int (.ofNat 2)) (.int (.ofNat 1))) a b d e ms rs qs [c0, c1, c2] [k0, k1, k2]) := by kernel_rfl
theorem look3_2_1 : Look 3 2 1 := fun a b d e ms rs qs cs ks hc hk => by
  obtain ⟨c0, c1, c2, rfl⟩ := el3 hc
  obtain ⟨k0, k1, k2, rfl⟩ := el3 hk
  exact ⟨c2, c1, k2, k1, rfl, rfl, rfl, rfl, lka3_2_1 a b d e ms rs qs c0 c1 c2 k0 k1 k2, lkb3_2_1 a b d e ms rs qs c0 c1 c2 k0 k1 k2, lkc3_2_1 a b d e ms rs qs c0 c1 c2 k0 k1 k2⟩
theorem lka4_1_0 (a b d e ms rs qs : List AV) (c0 c1 c2 c3 k0 k1 k2 k3 : AV) : evList (evL.e aeL) (HN (nmJ (.int (.ofNat 1)) (.int (.ofNat 0))) a b d e ms rs qs [c0, c1, c2, c3] [k0, k1, k2, k3]) ((callArgs l10).map (cE 40)) = some ([c1, c0], HN (nmJ (.int (.ofNat 1)) (.int (.ofNat 0))) a b d e ms rs qs [c0, c1, c2, c3] [k0, k1, k2, k3]) := by kernel_rfl
theorem lkb4_1_0 (a b d e ms rs qs : List AV) (c0 c1 c2 c3 k0 k1 k2 k3 : AV) : evL.e aeL (HN (nmJ (.int (.ofNat 1)) (.int (.ofNat 0))) a b d e ms rs qs [c0, c1, c2, c3] [k0, k1, k2, k3]) (cE 40 (cmpL r10)) = some (k1, HN (nmJ (.int (.ofNat 1)) (.int (.ofNat 0))) a b d e ms rs qs [c0, c1, c2, c3] [k0, k1, k2, k3]) := by kernel_rfl
theorem lkc4_1_0 (a b d e ms rs qs : List AV) (c0 c1 c2 c3 k0 k1 k2 k3 : AV) : evL.e aeL (HN (nmJ (.int (.ofNat 1)) (.int (.ofNat 0))) a b d e ms rs qs [c0, c1, c2, c3] [k0, k1, k2, k3]) (cE 40 (cmpR r10)) = some (k0, HN (nmJ (.int (.ofNat 1)) (.int (.ofNat 0))) a b d e ms rs qs [c0, c1, c2, c3] [k0, k1, k2, k3]) := by kernel_rfl
theorem look4_1_0 : Look 4 1 0 := fun a b d e ms rs qs cs ks hc hk => by
  obtain ⟨c0, c1, c2, c3, rfl⟩ := el4 hc
  obtain ⟨k0, k1, k2, k3, rfl⟩ := el4 hk
  exact ⟨c1, c0, k1, k0, rfl, rfl, rfl, rfl, lka4_1_0 a b d e ms rs qs c0 c1 c2 c3 k0 k1 k2 k3, lkb4_1_0 a b d e ms rs qs c0 c1 c2 c3 k0 k1 k2 k3, lkc4_1_0 a b d e ms rs qs c0 c1 c2 c3 k0 k1 k2 k3⟩
theorem lka4_2_0 (a b d e ms rs qs : List AV) (c0 c1 c2 c3 k0 k1 k2 k3 : AV) : evList (evL.e aeL) (HN (nmJ (.int (.ofNat 2)) (.int (.ofNat 0))) a b d e ms rs qs [c0, c1, c2, c3] [k0, k1, k2, k3]) ((callArgs l10).map (cE 40)) = some ([c2, c0], HN (nmJ (.int (.ofNat 2)) (.int (.ofNat 0))) a b d e ms rs qs [c0, c1, c2, c3] [k0, k1, k2, k3]) := by kernel_rfl
theorem lkb4_2_0 (a b d e ms rs qs : List AV) (c0 c1 c2 c3 k0 k1 k2 k3 : AV) : evL.e aeL (HN (nmJ (.int (.ofNat 2)) (.int (.ofNat 0))) a b d e ms rs qs [c0, c1, c2, c3] [k0, k1, k2, k3]) (cE 40 (cmpL r10)) = some (k2, HN (nmJ (.int (.ofNat 2)) (.int (.ofNat 0))) a b d e ms rs qs [c0, c1, c2, c3] [k0, k1, k2, k3]) := by kernel_rfl
theorem lkc4_2_0 (a b d e ms rs qs : List AV) (c0 c1 c2 c3 k0 k1 k2 k3 : AV) : evL.e aeL (HN (nmJ (.int (.ofNat 2)) (.int (.ofNat 0))) a b d e ms rs qs [c0, c1, c2, c3] [k0, k1, k2, k3]) (cE 40 (cmpR r10)) = some (k0, HN (nmJ (.int (.ofNat 2)) (.int (.ofNat 0))) a b d e ms rs qs [c0, c1, c2, c3] [k0, k1, k2, k3]) := by kernel_rfl
theorem look4_2_0 : Look 4 2 0 := fun a b d e ms rs qs cs ks hc hk => by
  obtain ⟨c0, c1, c2, c3, rfl⟩ := el4 hc
  obtain ⟨k0, k1, k2, k3, rfl⟩ := el4 hk
  exact ⟨c2, c0, k2, k0, rfl, rfl, rfl, rfl, lka4_2_0 a b d e ms rs qs c0 c1 c2 c3 k0 k1 k2 k3, lkb4_2_0 a b d e ms rs qs c0 c1 c2 c3 k0 k1 k2 k3, lkc4_2_0 a b d e ms rs qs c0 c1 c2 c3 k0 k1 k2 k3⟩
theorem lka4_2_1 (a b d e ms rs qs : List AV) (c0 c1 c2 c3 k0 k1 k2 k3 : AV) : evList (evL.e aeL) (HN (nmJ (.int (.ofNat 2)) (.int (.ofNat 1))) a b d e ms rs qs [c0, c1, c2, c3] [k0, k1, k2, k3]) ((callArgs l10).map (cE 40)) = some ([c2, c1], HN (nmJ (.int (.ofNat 2)) (.int (.ofNat 1))) a b d e ms rs qs [c0, c1, c2, c3] [k0, k1, k2, k3]) := by kernel_rfl
theorem lkb4_2_1 (a b d e ms rs qs : List AV) (c0 c1 c2 c3 k0 k1 k2 k3 : AV) : evL.e aeL (HN (nmJ (.int (.ofNat 2)) (.int (.ofNat 1))) a b d e ms rs qs [c0, c1, c2, c3] [k0, k1, k2, k3]) (cE 40 (cmpL r10)) = some (k2, HN (nmJ (.int (.ofNat 2)) (.int (.ofNat 1))) a b d e ms rs qs [c0, c1, c2, c3] [k0, k1, k2, k3]) := by kernel_rfl
theorem lkc4_2_1 (a b d e ms rs qs : List AV) (c0 c1 c2 c3 k0 k1 k2 k3 : AV) : evL.e aeL (HN (nmJ (.int (.ofNat 2)) (.int (.ofNat 1))) a b d e ms rs qs [c0, c1, c2, c3] [k0, k1, k2, k3]) (cE 40 (cmpR r10)) = some (k1, HN (nmJ (.int (.ofNat 2)) (.int (.ofNat 1))) a b d e ms rs qs [c0, c1, c2, c3] [k0, k1, k2, k3]) := by kernel_rfl
theorem look4_2_1 : Look 4 2 1 := fun a b d e ms rs qs cs ks hc hk => by
  obtain ⟨c0, c1, c2, c3, rfl⟩ := el4 hc
  obtain ⟨k0, k1, k2, k3, rfl⟩ := el4 hk
  exact ⟨c2, c1, k2, k1, rfl, rfl, rfl, rfl, lka4_2_1 a b d e ms rs qs c0 c1 c2 c3 k0 k1 k2 k3, lkb4_2_1 a b d e ms rs qs c0 c1 c2 c3 k0 k1 k2 k3, lkc4_2_1 a b d e ms rs qs c0 c1 c2 c3 k0 k1 k2 k3⟩
theorem lka4_3_0 (a b d e ms rs qs : List AV) (c0 c1 c2 c3 k0 k1 k2 k3 : AV) : evList (evL.e aeL) (HN (nmJ (.int (.ofNat 3)) (.int (.ofNat 0))) a b d e ms rs qs [c0, c1, c2, c3] [k0, k1, k2, k3]) ((callArgs l10).map (cE 40)) = some ([c3, c0], HN (nmJ (.int (.ofNat 3)) (.int (.ofNat 0))) a b d e ms rs qs [c0, c1, c2, c3] [k0, k1, k2, k3]) := by kernel_rfl
theorem lkb4_3_0 (a b d e ms rs qs : List AV) (c0 c1 c2 c3 k0 k1 k2 k3 : AV) : evL.e aeL (HN (nmJ (.int (.ofNat 3)) (.int (.ofNat 0))) a b d e ms rs qs [c0, c1, c2, c3] [k0, k1, k2, k3]) (cE 40 (cmpL r10)) = some (k3, HN (nmJ (.int (.ofNat 3)) (.int (.ofNat 0))) a b d e ms rs qs [c0, c1, c2, c3] [k0, k1, k2, k3]) := by kernel_rfl
theorem lkc4_3_0 (a b d e ms rs qs : List AV) (c0 c1 c2 c3 k0 k1 k2 k3 : AV) : evL.e aeL (HN (nmJ (.int (.ofNat 3)) (.int (.ofNat 0))) a b d e ms rs qs [c0, c1, c2, c3] [k0, k1, k2, k3]) (cE 40 (cmpR r10)) = some (k0, HN (nmJ (.int (.ofNat 3)) (.int (.ofNat 0))) a b d e ms rs qs [c0, c1, c2, c3] [k0, k1, k2, k3]) := by kernel_rfl
theorem look4_3_0 : Look 4 3 0 := fun a b d e ms rs qs cs ks hc hk => by
  obtain ⟨c0, c1, c2, c3, rfl⟩ := el4 hc
  obtain ⟨k0, k1, k2, k3, rfl⟩ := el4 hk
  exact ⟨c3, c0, k3, k0, rfl, rfl, rfl, rfl, lka4_3_0 a b d e ms rs qs c0 c1 c2 c3 k0 k1 k2 k3, lkb4_3_0 a b d e ms rs qs c0 c1 c2 c3 k0 k1 k2 k3, lkc4_3_0 a b d e ms rs qs c0 c1 c2 c3 k0 k1 k2 k3⟩
theorem lka4_3_1 (a b d e ms rs qs : List AV) (c0 c1 c2 c3 k0 k1 k2 k3 : AV) : evList (evL.e aeL) (HN (nmJ (.int (.ofNat 3)) (.int (.ofNat 1))) a b d e ms rs qs [c0, c1, c2, c3] [k0, k1, k2, k3]) ((callArgs l10).map (cE 40)) = some ([c3, c1], HN (nmJ (.int (.ofNat 3)) (.int (.ofNat 1))) a b d e ms rs qs [c0, c1, c2, c3] [k0, k1, k2, k3]) := by kernel_rfl
theorem lkb4_3_1 (a b d e ms rs qs : List AV) (c0 c1 c2 c3 k0 k1 k2 k3 : AV) : evL.e aeL (HN (nmJ (.int (.ofNat 3)) (.int (.ofNat 1))) a b d e ms rs qs [c0, c1, c2, c3] [k0, k1, k2, k3]) (cE 40 (cmpL r10)) = some (k3, HN (nmJ (.int (.ofNat 3)) (.int (.ofNat 1))) a b d e ms rs qs [c0, c1, c2, c3] [k0, k1, k2, k3]) := by kernel_rfl
theorem lkc4_3_1 (a b d e ms rs qs : List AV) (c0 c1 c2 c3 k0 k1 k2 k3 : AV) : evL.e aeL (HN (nmJ (.int (.ofNat 3)) (.int (.ofNat 1))) a b d e ms rs qs [c0, c1, c2, c3] [k0, k1, k2, k3]) (cE 40 (cmpR r10)) = some (k1, HN (nmJ (.int (.ofNat 3)) (.int (.ofNat 1))) a b d e ms rs qs [c0, c1, c2, c3] [k0, k1, k2, k3]) := by kernel_rfl
theorem look4_3_1 : Look 4 3 1 := fun a b d e ms rs qs cs ks hc hk => by
  obtain ⟨c0, c1, c2, c3, rfl⟩ := el4 hc
  obtain ⟨k0, k1, k2, k3, rfl⟩ := el4 hk
  exact ⟨c3, c1, k3, k1, rfl, rfl, rfl, rfl, lka4_3_1 a b d e ms rs qs c0 c1 c2 c3 k0 k1 k2 k3, lkb4_3_1 a b d e ms rs qs c0 c1 c2 c3 k0 k1 k2 k3, lkc4_3_1 a b d e ms rs qs c0 c1 c2 c3 k0 k1 k2 k3⟩
theorem lka4_3_2 (a b d e ms rs qs : List AV) (c0 c1 c2 c3 k0 k1 k2 k3 : AV) : evList (evL.e aeL) (HN (nmJ (.int (.ofNat 3)) (.int (.ofNat 2))) a b d e ms rs qs [c0, c1, c2, c3] [k0, k1, k2, k3]) ((callArgs l10).map (cE 40)) = some ([c3, c2], HN (nmJ (.int (.ofNat 3)) (.int (.ofNat 2))) a b d e ms rs qs [c0, c1, c2, c3] [k0, k1, k2, k3]) := by kernel_rfl
theorem lkb4_3_2 (a b d e ms rs qs : List AV) (c0 c1 c2 c3 k0 k1 k2 k3 : AV) : evL.e aeL (HN (nmJ (.int (.ofNat 3)) (.int (.ofNat 2))) a b d e ms rs qs [c0, c1, c2, c3] [k0, k1, k2, k3]) (cE 40 (cmpL r10)) = some (k3, HN (nmJ (.int (.ofNat 3)) (.int (.ofNat 2))) a b d e ms rs qs [c0, c1, c2, c3] [k0, k1, k2, k3]) := by kernel_rfl
theorem lkc4_3_2 (a b d e ms rs qs : List AV) (c0 c1 c2 c3 k0 k1 k2 k3 : AV) : evL.e aeL (HN (nmJ (.int (.ofNat 3)) (.int (.ofNat 2))) a b d e ms rs qs [c0, c1, c2, c3] [k0, k1, k2, k3]) (cE 40 (cmpR r10)) = some (k2, HN (nmJ (.int (.ofNat 3)) (.int (.ofNat 2))) a b d e ms rs qs [c0, c1, c2, c3] [k0, k1, k2, k3]) := by kernel_rfl
theorem look4_3_2 : Look 4 3 2 := fun a b d e ms rs qs cs ks hc hk => by
  obtain ⟨c0, c1, c2, c3, rfl⟩ := el4 hc
  obtain ⟨k0, k1, k2, k3, rfl⟩ := el4 hk
  exact ⟨c3, c2, k3, k2, rfl, rfl, rfl, rfl, lka4_3_2 a b d e ms rs qs c0 c1 c2 c3 k0 k1 k2 k3, lkb4_3_2 a b d e ms rs qs c0 c1 c2 c3 k0 k1 k2 k3, lkc4_3_2 a b d e ms rs qs c0 c1 c2 c3 k0 k1 k2 k3⟩
end Mine

namespace Mine
open PySem PySem.Calls PyProof.Rows PySem.W

noncomputable def coreH (m m' : Nat) : Hp := [.flist [.obj 2, .obj 3], .flist [.obj 4, .obj 5], .flist (avInts (singleA m)), .flist (avInts (lettersA m)), .flist (avInts (singleA m')), .flist (avInts (lettersA m'))]
theorem coreEq : (reps.all fun r => reps.all fun r' => match aeq (coreH r r') 8 (.obj 0) (.obj 1) with | some b => b == Nat.beq r r' | none => false) = true := by kernel_rfl
theorem core_eq {m m' : Nat} (h : m < 64) (h' : m' < 64) : aeq (coreH m m') 8 (.obj 0) (.obj 1) = some (sameC m m') := by
  refine hide fun GG hGG => ?_
  obtain ⟨_, h2, h3, h4⟩ := rep_eq h
  obtain ⟨_, k2, k3, k4⟩ := rep_eq h'
  refine hGG ?_
  clear hGG GG
  have e : coreH m m' = coreH (repA m) (repA m') := by unfold coreH; rw [← h2, ← h3, ← k2, ← k3]
  rw [e]
  have := List.all_eq_true.mp (List.all_eq_true.mp coreEq _ h4) _ k4
  split at this
  · rename_i b e; rw [e, eq_of_beq this]; rfl
  · cases this
theorem nodup_of_get {l : List Addr} (hl : l.Nodup) : ∀ {xs : List Addr} {is : List Nat}, All2 (fun x i => l[i]? = some x) xs is → is.Nodup → xs.Nodup
  | [], [], _, _ => List.nodup_nil
  | x :: xs, i :: is, h, hn => by
    rw [List.nodup_cons] at hn ⊢
    refine ⟨fun hx => ?_, nodup_of_get hl h.2 hn.2⟩
    refine hide fun GG hGG => ?_
    obtain ⟨q, hq, e⟩ := List.mem_iff_getElem.mp hx
    have hq2 : q < is.length := by rw [← h.2.len]; exact hq
    have e2 := h.2.get (i := q) (List.getElem?_eq_getElem hq) (List.getElem?_eq_getElem hq2)
    obtain ⟨u1, u2⟩ := List.getElem?_eq_some_iff.mp h.1
    obtain ⟨v1, v2⟩ := List.getElem?_eq_some_iff.mp e2
    refine hGG ?_
    clear hGG GG
    have := (List.getElem_inj hl).mp (u2.trans (e.symm.trans v2.symm))
    exact hn.1 (this ▸ List.getElem_mem hq2)
theorem ltE {n j : Nat} {P : Nat → Prop} (h : j < n + 1) (k1 : j < n → P j) (k2 : P n) : P j := (Nat.lt_succ_iff_lt_or_eq.mp h).elim k1 fun e => e ▸ k2
theorem lt0 {j : Nat} {G : Prop} (h : j < 0) : G := absurd h (Nat.not_lt_zero _)
theorem row1 {n j : Nat} (h : j < 1) (k : Look n 1 0) : Look n 1 j := ltE (P := fun j => Look n 1 j) h lt0 k
theorem row2 {n j : Nat} (h : j < 2) (k0 : Look n 2 0) (k1 : Look n 2 1) : Look n 2 j := ltE (P := fun j => Look n 2 j) h (fun h => ltE (P := fun j => Look n 2 j) h lt0 k0) k1
theorem row3 {n j : Nat} (h : j < 3) (k0 : Look n 3 0) (k1 : Look n 3 1) (k2 : Look n 3 2) : Look n 3 j := ltE (P := fun j => Look n 3 j) h (fun h => ltE (P := fun j => Look n 3 j) h (fun h => ltE (P := fun j => Look n 3 j) h lt0 k0) k1) k2
theorem look2 {i j : Nat} (hi : i < 2) (hj : j < i) : Look 2 i j := ltE (P := fun i => j < i → Look 2 i j) hi (fun hi => ltE (P := fun i => j < i → Look 2 i j) hi lt0 lt0) (fun hj => row1 hj look2_1_0) hj
theorem look3 {i j : Nat} (hi : i < 3) (hj : j < i) : Look 3 i j := ltE (P := fun i => j < i → Look 3 i j) hi (fun hi => ltE (P := fun i => j < i → Look 3 i j) hi (fun hi => ltE (P := fun i => j < i → Look 3 i j) hi lt0 lt0) fun hj => row1 hj look3_1_0) (fun hj => row2 hj look3_2_0 look3_2_1) hj
theorem look4 {i j : Nat} (hi : i < 4) (hj : j < i) : Look 4 i j := ltE (P := fun i => j < i → Look 4 i j) hi (fun hi => ltE (P := fun i => j < i → Look 4 i j) hi (fun hi => ltE (P := fun i => j < i → Look 4 i j) hi (fun hi => ltE (P := fun i => j < i → Look 4 i j) hi lt0 lt0) fun hj => row1 hj look4_1_0) fun hj => row2 hj look4_2_0 look4_2_1) (fun hj => row3 hj look4_3_0 look4_3_1 look4_3_2) hj
theorem lookAll {n i j : Nat} (hn : 2 ≤ n) (hn4 : n ≤ 4) (hi : i < n) (hj : j < i) : Look n i j := by
  refine ltE (n := 4) (P := fun n => 2 ≤ n → i < n → Look n i j) (Nat.lt_succ_of_le hn4) (fun hn4 hn hi => ?_) (fun _ hi => look4 hi hj) hn hi
  refine ltE (n := 3) (P := fun n => 2 ≤ n → i < n → Look n i j) hn4 (fun hn4 hn hi => ?_) (fun _ hi => look3 hi hj) hn hi
  obtain rfl : n = 2 := Nat.le_antisymm (Nat.le_of_lt_succ hn4) hn
  exact look2 hi hj

section
variable {prog : Program} {w : World} {h₀ : Heap}
variable {B B' : Base} {ρ as as' ex : List Addr} {H H' H1 H2 Hx T : Hp} {s s' : Shared} {env : Env} {A : Around} {E : Value → Shared → Prop} {Q : Flow → Shared → Prop}

theorem St.afterNs {m : List (Str × AV)} {Ll : Addr} (S : St B ρ H s) (h0 : H[0]? = some (.ns m)) (hl : ρ[0]? = some Ll) (k1 : ∀ b o, b ≠ Ll → s.heap.get? b = some o → s'.heap.get? b = some o) (k2 : ∀ f, s.heap.Ns Ll f → s'.heap.Ns Ll f) : St B ρ H s' := by
  refine S.frame (ms := [Ll]) (fun b o hb e => k1 b o (fun q => hb (by simp [q])) e) (fun b hb => by rw [List.mem_singleton.mp hb]; exact S.own 0 Ll _ hl h0 rfl) fun i a o e1 e2 ha => ?_
  rw [List.mem_singleton.mp ha] at e1 ⊢
  have := S.inj e1 hl
  subst this
  rw [h0] at e2; cases e2
  obtain ⟨f, hn, hf⟩ := S.objs 0 Ll _ hl h0
  exact ⟨f, k2 f hn, hf⟩

/-- cores[k] == cores[j] -/
theorem cores_cmp {ds : List Addr} {ts : List Tri} {ms : List Nat} (hC : Cores B ds ts ms) (k : ∀ b o, B b = some o → s.heap.get? b = some o) {i j m m' : Nat} {t t' : Tri} (hm : m < 64) (hm' : m' < 64) (hij : i ≠ j)
    (hi : ts[i]? = some t) (hj : ts[j]? = some t') (hmi : ms[i]? = some m) (hmj : ms[j]? = some m') (hu : A.units + 8 < cLine) {Q : Value → Shared → Prop} (hQ : Q (.bool (sameC m m')) s) : wpAny (model prog w) A (compareOp .Eq (.ref t.1) (.ref t'.1)) Q E s := by
  refine hide fun GG hGG => ?_
  obtain ⟨p1, p2, p3⟩ := hC.pl i t m hi hmi
  obtain ⟨q1, q2, q3⟩ := hC.pl j t' m' hj hmj
  obtain ⟨f1, f2, f3⟩ := flat_get hi
  obtain ⟨g1, g2, g3⟩ := flat_get hj
  refine hGG ?_
  clear hGG GG
  have nf : (flat ts).Nodup := (List.nodup_append.mp hC.nodup).2.1
  have nd : [t.1, t'.1, t.2.1, t.2.2, t'.2.1, t'.2.2].Nodup := nodup_of_get nf (is := [3 * i, 3 * j, 3 * i + 1, 3 * i + 2, 3 * j + 1, 3 * j + 2]) ⟨f1, g1, f2, f3, g2, g3, trivial⟩ (by
    simp only [List.nodup_cons, List.mem_cons, List.not_mem_nil, or_false, not_or, List.nodup_nil, and_true, not_false_iff]
    omega)
  have pair : ∀ {d x y : Addr} {a b : Nat}, PL B d [.gref x, .gref y] → [t.1, t'.1, t.2.1, t.2.2, t'.2.1, t'.2.2][a]? = some x → [t.1, t'.1, t.2.1, t.2.2, t'.2.1, t'.2.2][b]? = some y → ObjIs [t.1, t'.1, t.2.1, t.2.2, t'.2.1, t'.2.2] s.heap d (.flist [.obj a, .obj b]) := by
    rintro d x y a b ⟨o, e, z, n, vs, rfl, hv⟩ ha hb
    refine hide fun GG hGG => ?_
    obtain ⟨u1, u2, rfl, hu1, hu2⟩ := hv.two
    refine hGG ?_
    clear hGG GG
    cases hu1; cases hu2
    exact ⟨z, _, ⟨n, k _ _ e⟩, ⟨_, ha, rfl⟩, ⟨_, hb, rfl⟩, trivial⟩
  have all : All2 (fun x o => isMut o = false ∧ ObjIs [t.1, t'.1, t.2.1, t.2.2, t'.2.1, t'.2.2] s.heap x o) [t.1, t'.1, t.2.1, t.2.2, t'.2.1, t'.2.2] (coreH m m') :=
    ⟨⟨rfl, pair p1 rfl rfl⟩, ⟨rfl, pair q1 rfl rfl⟩, ⟨rfl, p2.at k _⟩, ⟨rfl, p3.at k _⟩, ⟨rfl, q2.at k _⟩, ⟨rfl, q3.at k _⟩, trivial⟩
  have S : St (Base.less [] s.heap) [t.1, t'.1, t.2.1, t.2.2, t'.2.1, t'.2.2] (coreH m m') s :=
    small_st rfl nd (fun i a o e1 e2 h => by rw [(all.get e1 e2).1] at h; cases h) fun i a o e1 e2 => (all.get e1 e2).2
  exact aeq_eq S (core_eq hm hm') ⟨_, rfl, rfl⟩ ⟨_, rfl, rfl⟩ (by omega) hQ
end
end Mine

namespace Mine
open PySem PySem.Calls PyProof.Rows PySem.W

section
variable {prog : Program} {w : World} {h₀ : Heap}
variable {B B' : Base} {ρ as as' ex : List Addr} {H H' H1 H2 Hx T : Hp} {s s' : Shared} {env : Env} {A : Around} {E : Value → Shared → Prop}

theorem obj190 (FX : Fx h₀) : ∃ o fd, h₀.get? 190 = some o ∧ o.data = .func fd := by
  cases h190 : fdAt 190 with
  | none => have := st190; unfold fnStat at this; rw [h190] at this; cases this
  | some fd =>
    obtain ⟨o, h1, h2⟩ := (ok_two FX h190 st190 bind190).obj
    exact ⟨o, fd, h1, h2⟩
noncomputable abbrev HM (nm : List (Str × AV)) (a b d e : List AV) (ms : List Nat) (ds : List Addr) (ts : List Tri) : Hp := HN nm a b d e (avInts ms) (avRow10 ms) (avRows ms) (refs ds) (refs (ts.map (·.1)))
theorem cmp_bool (H : Hp) (b : Bool) : cmpop H .NotEq (.bool b) (.bool b) = some false := by
  show Option.map (fun x => !x) (some (b == b)) = some false
  simp

theorem if10 (G : Gd prog w cx2 h₀) (FX : Fx h₀) {a b d e : List AV} {ms : List Nat} {ds : List Addr} {ts : List Tri} (hm : Modes ms) (hd : Chains B ds ms) (hC : Cores B ds ts ms) {i j : Nat} (hi : i < ms.length) (hj : j < i)
    (hA : Rm A (N2 + 1)) (hfr : A.frames = some [env]) (hf : env.frame = some env.locals) (c : Here h₀ B ρ aeL env (HM (nmJ (.int (.ofNat i)) (.int (.ofNat j))) a b d e ms ds ts) s A N2) :
    wpAny (model prog w) A (exec i10 env) (fun f s' => f = .next ∧ Same s s' ∧ St B ρ (HM (nmJ (.int (.ofNat i)) (.int (.ofNat j))) a b d e ms ds ts) s') E s := by
  have I := evN_sound G KE
  have hn2 : 2 ≤ ms.length := by obtain ⟨l, _, _, rfl⟩ := hm; simp
  have hjn : j < ms.length := by omega
  refine hide fun GG hGG => ?_
  obtain ⟨ci, cj, ki, kj, e1, e2, e3, e4, k1, k2, k3⟩ := lookAll hn2 hm.len hi hj a b d e (avInts ms) (avRow10 ms) (avRows ms) (refs ds) (refs (ts.map (·.1))) (by rw [refs_len, hd.1]) (by rw [refs_len, List.length_map, hC.len])
  obtain ⟨mi, hmi⟩ : ∃ m, ms[i]? = some m := ⟨_, List.getElem?_eq_getElem hi⟩
  obtain ⟨mj, hmj⟩ : ∃ m, ms[j]? = some m := ⟨_, List.getElem?_eq_getElem hjn⟩
  refine hGG ?_
  clear hGG GG
  obtain ⟨di, hdi⟩ : ∃ x, ds[i]? = some x := ⟨_, List.getElem?_eq_getElem (by rw [hd.1]; exact hi)⟩
  obtain ⟨dj, hdj⟩ : ∃ x, ds[j]? = some x := ⟨_, List.getElem?_eq_getElem (by rw [hd.1]; exact hjn)⟩
  obtain ⟨ti, hti⟩ : ∃ x, ts[i]? = some x := ⟨_, List.getElem?_eq_getElem (by rw [hC.len]; exact hi)⟩
  obtain ⟨tj, htj⟩ : ∃ x, ts[j]? = some x := ⟨_, List.getElem?_eq_getElem (by rw [hC.len]; exact hjn)⟩
  have hmi64 := hm.lt mi (List.mem_of_getElem? hmi)
  have hmj64 := hm.lt mj (List.mem_of_getElem? hmj)
  have r1 : ci = .gref di := by
    unfold refs at e1; rw [List.getElem?_map, hdi] at e1; exact (Option.some.inj e1).symm
  have r2 : cj = .gref dj := by
    unfold refs at e2; rw [List.getElem?_map, hdj] at e2; exact (Option.some.inj e2).symm
  have r3 : ki = .gref ti.1 := by
    unfold refs at e3; rw [List.getElem?_map, List.getElem?_map, hti] at e3; exact (Option.some.inj e3).symm
  have r4 : kj = .gref tj.1 := by
    unfold refs at e4; rw [List.getElem?_map, List.getElem?_map, htj] at e4; exact (Option.some.inj e4).symm
  subst r1 r2 r3 r4
  refine hide fun GG hGG => ?_
  obtain ⟨o, fd, ho, hfd⟩ := obj190 FX
  refine hGG ?_
  clear hGG GG
  have h0L : h₀.get? env.locals = none := by
    cases q : h₀.get? env.locals with
    | none => rfl
    | some u => have h1 := c.hB _ _ q; rw [c.S.own 0 env.locals _ c.V.loc rfl rfl] at h1; cases h1
  rw [sh10i]
  refine wpAny_If (wpAny_isTrue_Compare1 ?_ rfl)
  refine Call_ (eName_sound G c (nm10 _ _ _ _ _ _ _ _ _ _ _) fun _ u hu => ?_)
  cases hu
  refine callWith_function (o := o) (fd := fd) (evalArgs_sp (fun q e => ?_) ?_)
  · have hlen := backTo_length (pos := exPos l10) (env := env) (callArgs l10)
    rw [e, lone10] at hlen
    cases hlen
  refine nxt (list_sound I (callArgs l10) c k1) fun ws s₂ ρ₂ sm₂ p₂ hws S₂ => ?_
  have hρ : ρ₂ = ρ := same_len p₂ (by rw [S₂.len, c.S.len])
  subst hρ
  refine hide fun GG hGG => ?_
  obtain ⟨w1, w2, rfl, hw1, hw2⟩ := hws.two
  refine hGG ?_
  clear hGG GG
  cases hw1; cases hw2
  have c₂ : Here h₀ B ρ₂ aeL env _ s₂ A N2 := ⟨c.hB, c.V, S₂, c.R⟩
  obtain ⟨fL, hnL, _⟩ := S₂.objs 0 env.locals _ c.V.loc rfl
  refine ⟨⟨c₂.keep _ _ ho, hfd⟩, cmp_call G FX hmi64 hmj64 hA hfr hf (by rw [c.V.kind]; decide) (fun as => (hd.2.2 i di mi hdi hmi).at S₂.kept as) (fun as => (hd.2.2 j dj mj hdj hmj).at S₂.kept as) hnL c₂.keep h0L fun s₃ sm₃ q1 q2 => ?_⟩
  have S₃ := S₂.afterNs rfl c.V.loc q1 q2
  have c₃ : Here h₀ B ρ₂ aeL env _ s₃ A N2 := ⟨c.hB, c.V, S₃, c.R⟩
  refine wpAny_Compare1 (two I c₃ k2 k3 fun x y s₄ ρ₄ sm₄ p₄ hx hy S₄ => ?_) marks10
  cases hx; cases hy
  have hρ : ρ₄ = ρ₂ := same_len p₄ (by rw [S₄.len, S₃.len])
  subst hρ
  refine cores_cmp hC S₄.kept hmi64 hmj64 (by omega) hti htj hmi hmj (by have := c.R.u20; omega) ?_
  refine cmpop_sound S₄ (a := .bool (sameC mi mj)) (b := .bool (sameC mi mj)) (cmp_bool _ _) rfl rfl c.R.u20 (wpAny_truthy_bool ?_)
  simp only [Bool.false_eq_true, if_false]
  exact wpAny_execs_nil ⟨rfl, sm₂.trans (sm₃.trans sm₄), S₄⟩

theorem itJ {i : Nat} (hi : i < 4) (a b d e ms rs qs cs ks : List AV) : itemsOf cx2 evL aeL (HN (nmK (.int (.ofNat i))) a b d e ms rs qs cs ks) (cE 40 (stVal k10)) = some (avInts (List.range i), none, HN (nmK (.int (.ofNat i))) a b d e ms rs qs cs ks) := by
  match i, hi with
  | 0, _ => exact itJ0 ..
  | 1, _ => exact itJ1 ..
  | 2, _ => exact itJ2 ..
  | 3, _ => exact itJ3 ..
theorem itK {ms : List Nat} (hm : Modes ms) (a b d e cs ks : List AV) : itemsOf cx2 evL aeL (HN nm5 a b d e (avInts ms) (avRow10 ms) (avRows ms) cs ks) (cE 40 (stVal (lawSt 10))) = some (avInts (List.range ms.length), none, HN nm5 a b d e (avInts ms) (avRow10 ms) (avRows ms) cs ks) := by
  refine hide fun GG hGG => ?_
  obtain ⟨l, hl, _, rfl⟩ := hm
  refine hGG ?_
  clear hGG GG
  match l, hl with
  | [], _ => exact itK2 ..
  | [x], _ => exact itK3 ..
  | [x, y], _ => exact itK4 ..
  | _ :: _ :: _ :: _, hl => exact absurd hl (by simp)
theorem range_get {n i : Nat} {v : AV} (h : (avInts (List.range n))[i]? = some v) : i < n ∧ v = .int (.ofNat i) := by
  unfold avInts at h
  rw [List.getElem?_map] at h
  cases e : (List.range n)[i]? with
  | none => rw [e] at h; cases h
  | some q =>
    rw [e] at h
    have h1 := (List.getElem?_eq_some_iff.mp e).1
    rw [List.length_range] at h1
    rw [List.getElem?_range h1] at e
    cases e
    exact ⟨h1, (Option.some.inj h).symm⟩

noncomputable def Inv10 (nm : List (Str × AV)) (a b d e : List AV) (ms : List Nat) (ds : List Addr) (ts : List Tri) (_i : Nat) (Hi : Hp) (Bi : Base) : Prop := Hi = HM nm a b d e ms ds ts ∧ Chains Bi ds ms ∧ Cores Bi ds ts ms
theorem st10 (G : Gd prog w cx2 h₀) (FX : Fx h₀) {Q : Flow → Shared → Prop} {a b d e : List AV} {ms : List Nat} {ds : List Addr} {ts : List Tri} (hm : Modes ms) (hd : Chains B ds ms) (hC : Cores B ds ts ms)
    (hA : Rm A (N2 + 1)) (hfr : A.frames = some [env]) (hf : env.frame = some env.locals) (c : Here h₀ B ρ aeL env (HL nm5 none (some (.obj 13)) none none (L9 a b d e ms ds ts)) s A N2)
    (hQ : ∀ B' ρ' s', Chains B' ds ms → Cores B' ds ts ms → Here h₀ B' ρ' aeL env (HL nm5 none (some (.obj 13)) none none (L9 a b d e ms ds ts)) s' A N2 → Same s s' → Q .next s') :
    wpAny (model prog w) A (exec (lawSt 10) env) Q E s := by
  have I := evN_sound G KE
  rw [sh10, sh10b]
  refine for_rel G I (Inv10 nm5 a b d e ms ds ts) c (itK hm a b d e _ _) ⟨rfl, hd, hC⟩ (fun i v hv Hi Bi B' ρ' s' u E' inv g hB V S hu => ?_) fun s' Hn Bn ρ' g p inv sm hth => ?_
  · refine hide fun GG hGG => ?_
    obtain ⟨rfl, hd', hC'⟩ := inv
    obtain ⟨hi, rfl⟩ := range_get hv
    refine hGG ?_
    clear hGG GG
    have hi4 : i < 4 := by have := hm.len; omega
    refine wpAny_assign_Name (wrVar_sound (wrK _ _ _ _ _ _ _ _ _ _) V S hu fun s₁ sm₁ S₁ => ?_)
    refine wpAny_execs_cons ?_
    rw [sh10k]
    refine for_rel G I (Inv10 (nmK (.int (.ofNat i))) a b d e ms ds ts) ⟨hB, V, S₁, c.R⟩ (itJ hi4 _ _ _ _ _ _ _ _ _) ⟨rfl, hd'.grow g, hC'.grow g⟩ (fun j v2 hv2 Hj Bj B2 ρ2 s2 u2 E2 inv2 g2 hB2 V2 S2 hu2 => ?_) fun s3 Hn3 Bn3 ρ3 g3 p3 inv3 sm3 hth3 => ?_
    · refine hide fun GG hGG => ?_
      obtain ⟨rfl, hd2, hC2⟩ := inv2
      obtain ⟨hj, rfl⟩ := range_get hv2
      refine hGG ?_
      clear hGG GG
      refine wpAny_assign_Name (wrVar_sound (wrJ _ _ _ _ _ _ _ _ _ _ _) V2 S2 hu2 fun s4 sm4 S4 => ?_)
      refine wpAny_execs_cons ?_
      refine wpAny_mono (if10 G FX hm (hd2.grow g2) (hC2.grow g2) hi hj hA hfr hf ⟨hB2, V2, S4, c.R⟩) (fun f s5 q => ?_) fun _ _ e => e
      refine hide fun GG hGG => ?_
      obtain ⟨rfl, sm5, S5⟩ := q
      refine hGG ?_
      clear hGG GG
      refine wpAny_execs_nil ⟨rfl, HM (nmK (.int (.ofNat i))) a b d e ms ds ts, [], sm4.trans sm5, HL_weaken S5 ?_ CImp.none (fun v e => ⟨v, e, fun x h => h⟩) CImp.none CImp.none, ⟨s4, _, S4, Fresh.nil _ _⟩, fun B'' g' _ => ⟨rfl, hd2.grow g', hC2.grow g'⟩⟩
      exact NsImp.cons (u := .obj 11) rfl (fun x h => h) (NsImp.cons (u := .obj 12) rfl (fun x h => h) (NsImp.cons (u := .int (.ofNat i)) rfl (fun x h => h) NsImp.nil))
    · refine hide fun GG hGG => ?_
      obtain ⟨rfl, hd3, hC3⟩ := inv3
      refine hGG ?_
      clear hGG GG
      have S3 := hth3 _ rfl
      have hρ : ρ3 = ρ' := same_len p3 (by rw [S3.len, S₁.len])
      subst hρ
      refine wpAny_execs_nil ⟨rfl, HM nm5 a b d e ms ds ts, [], sm₁.trans sm3, (HL_weaken S3 ?_ CImp.none (fun v e => ⟨v, e, fun x h => h⟩) CImp.none CImp.none).weaken g3, ⟨s₁, _, S₁, Fresh.nil _ _⟩, fun B'' g' _ => ⟨rfl, hd'.grow g', hC'.grow g'⟩⟩
      exact NsImp.cons (u := .obj 11) rfl (fun x h => h) (NsImp.cons (u := .obj 12) rfl (fun x h => h) NsImp.nil)
  · refine hide fun GG hGG => ?_
    obtain ⟨rfl, hd', hC'⟩ := inv
    refine hGG ?_
    clear hGG GG
    exact hQ Bn ρ' s' hd' hC' ⟨fun b o h => g _ _ (c.hB b o h), c.V.mono p, hth _ rfl, c.R⟩ sm
end
end Mine

namespace Mine
open PySem PySem.Calls PyProof.Rows PySem.W

theorem sh12 : lawSt 12 = .Return (some (.Constant (.bool true) (constK (retVal (lawSt 12))) (consPos (retVal (lawSt 12))))) (stPos (lawSt 12)) := by kernel_rfl

section
variable {prog : Program} {w : World} {h₀ : Heap}
variable {B B' : Base} {ρ as as' ex : List Addr} {H H' H1 H2 Hx T : Hp} {s s' : Shared} {env : Env} {A : Around} {E : Value → Shared → Prop} {Q : Flow → Shared → Prop}

theorem execs_more {M : Model} {a b : Stmt} {r : List Stmt} (h : wpAny M A (execs [a, b] env) (fun f s' => match f with | .next => wpAny M A (execs r env) Q E s' | f => Q f s') E s) : wpAny M A (execs (a :: b :: r) env) Q E s := fun Γ p hΓ => by
  have h1 := h Γ p hΓ
  rw [execs_cons, Sem.wp_bind'] at h1
  rw [execs_cons, Sem.wp_bind']
  refine Sem.wp_mono M Γ _ (fun f p' s' h' => ?_) (fun _ _ _ h' => h') _ _ h1
  cases f <;> first | exact h' | skip
  have h2 : Sem.wp M Γ (execs [b] env) _ _ p' s' := h'
  show Sem.wp M Γ (execs (b :: r) env) _ _ p' s'
  rw [execs_cons, Sem.wp_bind'] at h2
  rw [execs_cons, Sem.wp_bind']
  refine Sem.wp_mono M Γ _ (fun f p2 s2 h3 => ?_) (fun _ _ _ h3 => h3) _ _ h2
  cases f <;> first | exact h3 Γ p2 hΓ | exact h3

theorem law_body (G : Gd prog w cx2 h₀) (FX : Fx h₀) {ns : List Int} (hA : Rm A (N2 + 1)) (hfr : A.frames = some [env]) (hf : env.frame = some env.locals)
    (c : Here h₀ B ρ aeL env (HL nm0 none none none none [.flist (ns.map AV.int)]) s A N2) (hQ : ∀ s', Same s s' → (∀ b o, h₀.get? b = some o → s'.heap.get? b = some o) → Q (.ret (.bool true)) s') :
    wpAny (model prog w) A (execs lawBody env) Q E s := by
  rw [body13]
  refine wpAny_execs_cons (st0 G c fun ms a b d e B1 ρ1 s1 hm hI c1 sm1 g1 p1 => ?_)
  refine wpAny_execs_cons (st1 G hm hI c1 fun B2 ρ2 s2 c2 sm2 g2 p2 => ?_)
  refine wpAny_execs_cons (st2 G hm hI c2 fun B3 ρ3 s3 c3 sm3 g3 p3 => ?_)
  refine wpAny_execs_cons (st3 G hm hI c3 fun B4 ρ4 s4 c4 sm4 g4 p4 => ?_)
  refine wpAny_execs_cons (st4 G hm hI c4 fun ds B5 ρ5 s5 hd c5 sm5 g5 p5 => ?_)
  refine wpAny_execs_cons (st5 G hm hd hI c5 fun B6 s6 c6 sm6 g6 => ?_)
  refine wpAny_execs_cons (st6 G c6 fun ρ7 s7 c7 sm7 => ?_)
  refine wpAny_execs_cons (st7 G hm (hd.grow g6) hd.2.1 c7 fun ts B8 ρ8 s8 hC hd8 c8 sm8 => ?_)
  refine execs_more (st89 G hm hd8 hC c8 fun s9 c9 sm9 => ?_)
  refine wpAny_execs_cons (st10 G FX hm hd8 hC hA hfr hf c9 fun B10 ρ10 s10 hd10 hC10 c10 sm10 => ?_)
  refine wpAny_execs_cons (st11 G hm hd10 hC10 c10 fun s11 sm11 S11 => ?_)
  refine wpAny_execs_cons ?_
  rw [sh12]
  refine wpAny_Return_some (wpAny_Constant_bool ?_)
  exact hQ s11 (sm1.trans (sm2.trans (sm3.trans (sm4.trans (sm5.trans (sm6.trans (sm7.trans (sm8.trans (sm9.trans (sm10.trans sm11)))))))))) fun b o h => S11.kept b o (c10.hB b o h)
end
end Mine

namespace Mine
open PySem PySem.Calls PyProof.Rows PySem.W

theorem well_ints {P : Params} {h : Heap} : ∀ {vs : List Value} {ns : List Int}, WellAll P h vs (ofPys (ns.map PyData.int)) → VRs [] (ns.map AV.int) vs
  | [], [], _ => trivial
  | v :: vs, n :: ns, w => by
    cases w with
    | cons h1 h2 =>
      have h1 : Well P h v (.int n) := h1
      cases h1 with
      | int i t => exact ⟨⟨t, rfl⟩, well_ints h2⟩
  | [], _ :: _, w => by cases w
  | _ :: _, [], w => by cases w
theorem well_list {P : Params} {h : Heap} {l : Addr} {ns : List Int} (w : Well P h (.ref l) (ofPy (PyData.list (ns.map PyData.int)))) : ∃ vs : List Value, h.PlainList l vs.toArray ∧ VRs [] (ns.map AV.int) vs := by
  have w : Well P h (.ref l) (.list (ofPys (ns.map PyData.int))) := w
  cases w with
  | list e wa => exact ⟨_, ⟨_, e⟩, well_ints wa⟩
theorem lawCells : aeL.cells = [(vS "row", 1), (vS "cores", 2), (vS "single", 3), (vS "letters", 4)] := by kernel_rfl
theorem cellsL (L : Nat) : cellsFrom (L + 1) lawScope.names [] = [(vS "letters", L + 4), (vS "single", L + 3), (vS "cores", L + 2), (vS "row", L + 1)] := by kernel_rfl
theorem lawKind : lawScope.kind = .function := by kernel_rfl

section
variable {prog : Program} {w : World} {h₀ : Heap} {s : Shared} {E : Value → Shared → Prop} {Q : Flow → Shared → Prop}
theorem law_start (G0 : Gd prog w cx0 h₀) (FX : Fx h₀) {name : Str} {scope : Scope} {fa : Addr} {L l : Nat} {cd : Value} {body : List Stmt} {m : Str → Option Value} {ns : List Int} (hb : lawBody = body) (hs : lawScope = scope) (F : Fr h₀ L s.heap m)
    (hscr : m (vS "script") = some (.ref l)) (hl : ∃ vs : List Value, h₀.PlainList l vs.toArray ∧ VRs [] (ns.map AV.int) vs) (hn : ns.length ≤ 63)
    (hc : ∀ i ∈ [1, 2, 3, 4], ∃ o x, s.heap.get? (L + i) = some o ∧ o.data = .cell x) (hQ : ∀ s', Same s s' → (∀ b o, h₀.get? b = some o → s'.heap.get? b = some o) → Q (.ret (.bool true)) s') :
    wpAny (model prog w) (callerA.deeper (envOfC name scope L fa cd)) (execs body (envOfC name scope L fa cd)) Q E s := by
  subst hb hs
  obtain ⟨vs, hpl, hv⟩ := hl
  have hlL : l < L := by
    obtain ⟨n, e⟩ := hpl
    exact Nat.lt_of_lt_of_le (Heap.lt_size e) F.above
  have low : ∀ {b o}, h₀.get? b = some o → (b : Nat) < L := fun {b o} e => Nat.lt_of_lt_of_le (Heap.lt_size e) F.above
  have cell : ∀ i ∈ [1, 2, 3, 4], ∀ as, ObjIs as s.heap (L + i) (.cell none) := fun i hi as => by
    obtain ⟨o, x, ho, hd⟩ := hc i hi
    exact ⟨x, ⟨o, ho, hd⟩, fun v e => by cases e⟩
  have S : St (Base.less [L, L + 1, L + 2, L + 3, L + 4] s.heap) [L, L + 1, L + 2, L + 3, L + 4, l] (HL nm0 none none none none [.flist (ns.map AV.int)]) s := by
    refine small_st rfl ?_ (fun i a o e1 e2 hm => ?_) fun i a o e1 e2 => ?_
    · have : ([L, L + 1, L + 2, L + 3, L + 4, l] : List Nat).Nodup := by
        simp only [List.nodup_cons, List.mem_cons, List.not_mem_nil, or_false, not_or, List.nodup_nil, and_true, not_false_iff]
        omega
      exact this
    · match i, e1, e2 with
      | 0, e1, _ => cases e1; simp
      | 1, e1, _ => cases e1; simp
      | 2, e1, _ => cases e1; simp
      | 3, e1, _ => cases e1; simp
      | 4, e1, _ => cases e1; simp
      | 5, _, e2 => cases e2; cases hm
    · match i, e1, e2 with
      | 0, e1, e2 =>
        cases e1; cases e2
        refine ⟨m, F.ns, fun y v e => ?_⟩
        simp only [lkp] at e
        refine ooT e ?_
        clear e; intros; rename_i hs e
        cases e
        have := seq_iff.mp hs; subst this
        exact ⟨_, hscr, l, rfl, rfl⟩
      | 1, e1, e2 => cases e1; cases e2; exact cell 1 (by simp) _
      | 2, e1, e2 => cases e1; cases e2; exact cell 2 (by simp) _
      | 3, e1, e2 => cases e1; cases e2; exact cell 3 (by simp) _
      | 4, e1, e2 => cases e1; cases e2; exact cell 4 (by simp) _
      | 5, e1, e2 =>
        cases e1; cases e2
        refine ⟨?_, vs, hpl.at fun o e => F.keep _ o e, hv.mono List.nil_prefix⟩
        rw [List.length_map]
        show ns.length ≤ 1048576
        omega
  have hB : ∀ b o, h₀.get? b = some o → Base.less [L, L + 1, L + 2, L + 3, L + 4] s.heap b = some o := fun b o e => less_of (fun hb => by
    have h1 := low e
    have hb' : (b : Nat) ∈ ([L, L + 1, L + 2, L + 3, L + 4] : List Nat) := hb
    simp only [List.mem_cons, List.not_mem_nil, or_false] at hb'
    rcases hb' with q | q | q | q | q
    · have h2 : (L : Nat) < L := q ▸ h1
      omega
    · have h2 : (L + 1 : Nat) < L := q ▸ h1
      omega
    · have h2 : (L + 2 : Nat) < L := q ▸ h1
      omega
    · have h2 : (L + 3 : Nat) < L := q ▸ h1
      omega
    · have h2 : (L + 4 : Nat) < L := q ▸ h1
      omega) (F.keep b o e)
  have V : EnvOk [L, L + 1, L + 2, L + 3, L + 4, l] aeL (envOfC name lawScope L fa cd) := by
    refine ⟨lawKind, rfl, rfl, rfl, fun x k e => .inl (by show lawScope.names.lookup x = some k; rw [← lkp_eq]; exact e), fun x k e => ?_⟩
    have hce : (envOfC name lawScope L fa cd).cells = [(vS "letters", L + 4), (vS "single", L + 3), (vS "cores", L + 2), (vS "row", L + 1)] := cellsL L
    rw [hce]
    rw [lawCells] at e
    simp only [lkp] at e
    split at e
    · rename_i hs
      cases e
      have := seq_iff.mp hs; subst this
      exact ⟨L + 1, by rw [← lkp_eq]; rfl, rfl⟩
    split at e
    · rename_i hs
      cases e
      have := seq_iff.mp hs; subst this
      exact ⟨L + 2, by rw [← lkp_eq]; rfl, rfl⟩
    split at e
    · rename_i hs
      cases e
      have := seq_iff.mp hs; subst this
      exact ⟨L + 3, by rw [← lkp_eq]; rfl, rfl⟩
    refine ooT e ?_
    clear e; intros; rename_i hs e
    cases e
    have := seq_iff.mp hs; subst this
    exact ⟨L + 4, by rw [← lkp_eq]; rfl, rfl⟩
  have R : Rm (callerA.deeper (envOfC name lawScope L fa cd)) (N2 + 1) := ⟨rfl, by show 1 + claimMargin + 1 + (120 + 30 + 1) < 900; decide, by show 4 + 3 + 10 * (120 + 30 + 1) < 9000; decide⟩
  exact law_body (gd2 G0) FX R rfl rfl ⟨hB, V, S, R.le (Nat.le_succ _)⟩ hQ
end
end Mine

open PySem PySem.W PyProof.Rows Mine
set_option maxHeartbeats 8000000
namespace Mine
theorem leftX : LeftO PW viewP [Str.ofString "_filemode_table"] (fun s => recOk [] s && globs.all (gB (s.heap.nsMap mainGlobals))) obsX (fun _ => valX) 3136 := by
  intro w; kernel_rfl
end Mine

open PySem PySem.W PyProof.Rows Mine
set_option maxHeartbeats 8000000
namespace Mine
theorem wsX : PySem.Challenge.rw_un0035_01.wellSaid = true := by kernel_rfl
end Mine

theorem PySem.Challenge.cw_un0035_01_holds : PySem.Challenge.rw_un0035_01.Holds := by
  w_on
  refine holds_law wsX fun said => ?_
  refine holds_open (q := viewP) (loose := [Str.ofString "_filemode_table"]) (Xt := fun s => recOk [] s && globs.all (gB (s.heap.nsMap mainGlobals))) (XP := fun mg _ => globs.all (gB mg) = true ∧ True) (Yf := obsX) (Ya := fun _ => valX) (YP := fun _ h => Fx h) (N := 3136) leftX
    (fun _ _ e => fx_of e) (fun _ _ _ x k => fx_keeps x k) (fun s e => ⟨(Bool.and_eq_true_iff.mp e).2, trivial⟩) (fun _ _ _ x _ => x) (by rfl) (by rfl) (by rfl) (fun s e => recFacts_of (Bool.and_eq_true_iff.mp e).1) (by rfl) (by first | assumption | decide +kernel) (by decide +kernel) ⟨rfl, rfl, rfl, rfl, rfl, by decide +kernel⟩ ?hw ?hc
  case hw => w_witness2
  case hc =>
    intro w s₀ s₁ mg mb G Y fa o pm cd doc dV kV ho hd hcd hD hmg hg args vals as hpre hlay hrd hwl hlo
    have KX := Y
    k_behind G ho hd hcd hD hmg hpre hlay hrd hwl hlo cd
    rename_i X V T B TE TW wa wb M wc wd ns hs1 hlay0 hL1 hr1 hl2 wA wB l wL wM hL ra w1 r0 hI hr hc1 hc2 K0 h1 tk1 F o3 o2 o1 o0 d3 d2 d1 d0 N0 X0
    refine law_start (gd0 (topRead_of T) X KX) KX (ns := ns) (l := l) (by kernel_rfl) (by kernel_rfl) F ?_ (well_list w1) (by omega) ?_ ?_
    · kernel_rfl
    · intro i hi
      simp only [List.mem_cons, List.not_mem_nil, or_false] at hi
      rcases hi with rfl | rfl | rfl | rfl
      · exact ⟨o0, _, N0.get (by simp), d0⟩
      · exact ⟨o1, _, N0.get (by simp), d1⟩
      · exact ⟨o2, _, N0.get (by simp), d2⟩
      · exact ⟨o3, _, N0.get (by simp), d3⟩
    · rintro s' ⟨h', t, rfl⟩ hk
      refine ⟨.inl ⟨.bool true, .bool true, [], rfl, raisesW_false (by wrow_none_raised), .bool true, postW_of (by wrow_shape) (by wtm_val) (by w_fin), unshared_nil⟩, hk, rfl, hg⟩
