import PyProof.Rows.All
import Wide.All
import OpenK.AllK
import Wide.FinOn
import Lean
import PySem.Challenge.RW_yf0003_01
set_option maxRecDepth 100000
set_option Elab.async false
set_option genSizeOf false
set_option genInjectivity false
open PySem PySem.W PyProof.Rows
namespace Mine

/-! THE EVALUATOR: definitions -/

/-- equality of texts, by their signs -/
noncomputable def lEq : List Nat → List Nat → Bool
  | [], [] => true
  | a :: x, b :: y => match Nat.beq a b with
    | true => lEq x y
    | false => false
  | _, _ => false
noncomputable def sEqB (a b : Str) : Bool := lEq a.cps.toList b.cps.toList

/-- what is known of an int besides its value -/
inductive Kn where
  | any
  | lt (k : Nat)
  | res (m r : Nat)
  | itv (l h : Int)
  | tab (j : Nat) (b : Bool)

inductive AV where
  | none
  | bool (b : Bool)
  | int (i : Int) (kn : Kn)
  | bit (b : Bool)
  | chr (i : Int) (kn : Kn)
  | bytes (b : List UInt8) (n : Nat)
  | typ (n : Nat)
  | bi (n : Nat)
  | fn (i : Nat)
  | set (i : Nat)
  | scr
  | obj (k : Nat)

inductive AO where
  | list (xs : List AV)
  | tup (xs : List AV)
  | ints (l : List Int)

noncomputable abbrev H := List AO

structure AF where
  names : List (Str × NameKind)
  vals : List (Option AV)

inductive Fl where
  | next | brk | cont
  | ret (v : AV)

inductive Src where
  | rng (a : Int) (n : Nat)
  | lst (k : Nat)
  | enu (k : Nat)
  | byt (l : List UInt8)

inductive Res where
  | v (v : AV)
  | vs (l : List AV)
  | b (b : Bool)
  | f (f : AF)
  | fl (f : AF) (w : Fl)
  | src (s : Src)

inductive Req where
  | e (f : AF) (x : Expr)
  | es (f : AF) (xs : List Expr)
  | t (f : AF) (x : Expr)
  | ts (f : AF) (op : BoolOp) (xs : List Expr)
  | ch (f : AF) (l : AV) (ops : List CmpOp) (xs : List Expr)
  | tch (f : AF) (l : AV) (ops : List CmpOp) (xs : List Expr)
  | as (f : AF) (t : Expr) (v : AV)
  | asp (f : AF) (t : Expr) (i : Nat) (v : AV)
  | asn (f : AF) (ts : List Expr) (vs : List AV)
  | s (f : AF) (st : Stmt)
  | ss (f : AF) (sts : List Stmt)
  | it (f : AF) (x : Expr)
  | fo (f : AF) (tgt : Expr) (src : Src) (i : Nat) (body : List Stmt)
  | wh (f : AF) (test : Expr) (body : List Stmt)
  | ifs (f : AF) (xs : List Expr)
  | co (f : AF) (elt : Expr) (gens : List Comprehension) (src : Src) (i : Nat) (acc : Nat)
  | ca (i : Nat) (args : List AV)

noncomputable abbrev EvT := Req → H → Option (Res × H)

/-! names -/
noncomputable def slotGo (x : Str) : List (Str × NameKind) → Nat → Option (Nat × NameKind)
  | [], _ => none
  | (y, k) :: r, i => match sEqB x y with
    | true => some (i, k)
    | false => slotGo x r (i + 1)
noncomputable def slot (names : List (Str × NameKind)) (x : Str) : Option (Nat × NameKind) := slotGo x names 0

noncomputable def look (l : List (Str × AV)) (x : Str) : Option AV := match l with
  | [] => none
  | (y, v) :: r => match sEqB x y with
    | true => some v
    | false => look r x

/-- the program's defs: the place in the text, by number -/
noncomputable def fnPlace : List Nat := [1, 2, 3, 4, 5, 6, 7, 9, 12, 13, 14, 16, 18, 20, 22, 24, 25, 26, 27, 28, 29, 30, 31]
noncomputable def fnStmt (i : Nat) : Option Stmt := (fnPlace[i]?).bind fun j => PySem.Challenge.pw_yf0003_01.main.body[j]?

structure Fn where
  name : Str
  params : Arguments
  body : List Stmt
  scope : Scope
noncomputable def fnOf (i : Nat) : Option Fn := match fnStmt i with
  | some (.FunctionDef n a b _ _ _ sc _ _ _) => some ⟨n, a, b, sc⟩
  | _ => none

noncomputable def setElems : Nat → List Int
  | 0 => [65024, 65025, 65026, 65027, 65028, 65029, 6150, 65030, 65031, 65032, 65033, 6155, 6156, 6157, 8203, 8204, 8205, 65034, 65035, 65036, 65037, 65038, 65039, 173, 847, 8288, 65279]
  | 1 => [65529, 65530, 65531, 65532, 65533]
  | 2 => [12272, 12273, 12274, 12275, 12276, 12277, 12278, 12279, 12280, 12281, 12282, 12283]
  | 3 => [832, 833, 8234, 8235, 8236, 8237, 8206, 8207, 8238, 8298, 8299, 8300, 8301, 8302, 8303]
  | 4 => 917505 :: (List.range 96).map fun i => (917536 + Int.ofNat i : Int)
  | _ => []

/-- the names that no def's frame binds -/
noncomputable def globs : List (Str × AV) := ([
  ("range", .typ 0), ("len", .bi 0), ("sum", .bi 1), ("enumerate", .typ 1), ("ord", .bi 2), ("chr", .bi 3), ("abs", .bi 4), ("divmod", .bi 5), ("isinstance", .bi 6), ("int", .typ 2), ("bytes", .typ 3),
  ("not_", .fn 0), ("is_not", .fn 1), ("and_", .fn 2), ("inv", .fn 3), ("contains", .fn 4), ("iadd", .fn 5), ("ilshift", .fn 6), ("Int2AP", .fn 7), ("in_table_b1", .fn 8), ("in_table_c11", .fn 9), ("in_table_c4", .fn 10), ("in_table_c6", .fn 11), ("in_table_c7", .fn 12), ("in_table_c8", .fn 13), ("in_table_c9", .fn 14),
  ("_law_runs", .fn 15), ("_law_within", .fn 16), ("_law_beyond", .fn 17), ("_law_seen", .fn 18), ("_law_rings", .fn 19), ("_law_roads", .fn 20), ("_law_worth", .fn 21), ("law", .fn 22),
  ("b1_set", .set 0), ("c6_set", .set 1), ("c7_set", .set 2), ("c8_set", .set 3), ("c9_set", .set 4)] : List (String × AV)).map fun p => (Str.ofString p.1, p.2)

noncomputable def dbgS : Str := "__debug__"
noncomputable def cldS : Str := "__classdict__"
noncomputable def getVar (f : AF) (x : Str) : Option AV := match sEqB x dbgS with
  | true => none
  | false => match slot f.names x with
    | some (i, k) => match k with
      | .local | .cell => match f.vals[i]? with
        | some (some v) => some v
        | _ => none
      | .free => match sEqB x cldS with
        | true => none
        | false => match f.vals[i]? with
          | some (some v) => some v
          | _ => none
      | .globalImplicit => look globs x
      | _ => none
    | none => none
noncomputable def setVar (f : AF) (x : Str) (v : AV) : Option AF := match slot f.names x with
  | some (i, k) => match k with
    | .local | .cell => some ⟨f.names, f.vals.set i (some v)⟩
    | _ => none
  | none => none
noncomputable def freshVals (names : List (Str × NameKind)) : List (Option AV) := names.map fun _ => none
noncomputable def bindAll : AF → List Arg → List AV → Option AF
  | f, [], [] => some f
  | f, p :: ps, v :: vs => match setVar f p.arg v with
    | some f' => bindAll f' ps vs
    | none => none
  | _, _, _ => none
/-- the frame of a comprehension -/
noncomputable def compFrame (names : List (Str × NameKind)) (f : AF) : AF := ⟨names, names.map fun (x, k) => match k with
  | .free => getVar f x
  | _ => none⟩

/-! values -/
noncomputable def bI (b : Bool) : Int := match b with
  | true => 1
  | false => 0
noncomputable def ival : AV → Option Int
  | .int i _ => some i
  | .bit b => some (bI b)
  | _ => none
noncomputable def knOf : AV → Kn
  | .int _ kn => kn
  | _ => .any
noncomputable def ivals : List AV → Option (List Int)
  | [] => some []
  | v :: r => match ival v with
    | some i => match ivals r with
      | some l => some (i :: l)
      | none => none
    | none => none
noncomputable def small (i : Int) : Bool := Nat.blt i.natAbs 18446744073709551616
noncomputable def smallK (kn : Kn) (i : Int) : Bool := match kn with
  | .itv l h => small l && small h
  | _ => small i
noncomputable def isLt : Kn → Option Nat
  | .lt k => some k
  | _ => none
/-- an int that is not below nought, as a Nat -/
noncomputable def natOf : AV → Option Nat
  | .int i kn => match kn with
    | .lt _ => some i.toNat
    | _ => match i with
      | .ofNat n => some n
      | .negSucc _ => none
  | _ => none
noncomputable def listAt (σ : H) (k : Nat) : Option (List AV) := match σ[k]? with
  | some (.list xs) => some xs
  | _ => none
noncomputable def itemsAt (σ : H) (k : Nat) : Option (List AV) := match σ[k]? with
  | some (.list xs) => some xs
  | some (.tup xs) => some xs
  | _ => none
noncomputable def repL {α : Type} : Nat → List α → List α
  | 0, _ => []
  | n + 1, l => l ++ repL n l

noncomputable def addV (a b : AV) (σ : H) : Option (AV × H) := match a with
  | .obj k => match b with
    | .obj k' => match listAt σ k with
      | some xs => match listAt σ k' with
        | some ys => match Nat.ble (xs.length + ys.length) 1000 with
          | true => some (.obj σ.length, σ ++ [.list (xs ++ ys)])
          | false => none
        | none => none
      | none => none
    | _ => none
  | .bytes x n => match b with
    | .bytes y m => match Nat.ble (n + m) 1000 with
      | true => some (.bytes (x ++ y) (n + m), σ)
      | false => none
    | _ => none
  | .int i kn => match kn with
    | .lt k => match b with
      | .int j _ => match j with
        | .ofNat n => some (.int (i + j) (.lt (k + n)), σ)
        | .negSucc _ => some (.int (i + j) .any, σ)
      | .bit c => some (.int (i + bI c) .any, σ)
      | _ => none
    | .res m r => match b with
      | .int j _ => match j with
        | .ofNat n => some (.int (i + j) (.res m ((r + n) % m)), σ)
        | .negSucc _ => some (.int (i + j) .any, σ)
      | _ => none
    | _ => match ival b with
      | some j => some (.int (i + j) .any, σ)
      | none => none
  | .bit c => match ival b with
    | some j => some (.int (bI c + j) .any, σ)
    | none => none
  | _ => none
noncomputable def intOp (op : Operator) (i : Int) (a b : AV) : Option AV := match b with
  | .int j kj => match op with
    | .FloorDiv => match j with
      | .ofNat n => match n with
        | 0 => none
        | m + 1 => match Nat.blt (m + 1) 1073741824 with
          | true => some (.int (Int.fdiv i j) .any)
          | false => none
      | .negSucc _ => none
    | .Mod => match j with
      | .ofNat n => match Nat.beq n 2 with
        | true => some (.bit (Int.fmod i 2 == 1))
        | false => match n with
          | 0 => none
          | m + 1 => match a with
            | .int _ (.res d r) => match Nat.beq d (m + 1) with
              | true => some (.int (Int.ofNat (r % (m + 1))) .any)
              | false => some (.int (Int.fmod i j) (.lt (m + 1)))
            | _ => some (.int (Int.fmod i j) (.lt (m + 1)))
      | .negSucc _ => none
    | .Pow => match small i with
      | true => match kj with
        | .lt k => match Nat.ble k 1000 with
          | true => some (.int (i ^ j.toNat) .any)
          | false => none
        | _ => match j with
          | .ofNat n => match Nat.ble n 1000 with
            | true => some (.int (i ^ n) .any)
            | false => none
          | .negSucc _ => none
      | false => none
    | .BitAnd => some (.int (Builtin.bitAnd i j) .any)
    | _ => none
  | _ => none
noncomputable def nonE (l : List UInt8) : Bool := match l with
  | [] => false
  | _ :: _ => true
noncomputable def mulV (a b : AV) (σ : H) : Option (AV × H) := match a with
  | .bit x => match b with
    | .bit y => some (.bit (x && y), σ)
    | _ => none
  | .int i _ => match b with
    | .int j _ => match small i with
      | true => match small j with
        | true => some (.int (i * j) .any, σ)
        | false => none
      | false => none
    | _ => none
  | .obj k => match b with
    | .int j _ => match j with
      | .ofNat n => match Nat.ble n 1000 with
        | true => match listAt σ k with
          | some xs => match Nat.ble xs.length 1000 with
            | true => some (.obj σ.length, σ ++ [.list (repL n xs)])
            | false => none
          | none => none
        | false => none
      | .negSucc _ => none
    | _ => none
  | .bytes x m => match nonE x with
    | false => none
    | true => match Nat.ble m 16 with
      | false => none
      | true => match b with
        | .int j _ => match j with
          | .ofNat n => match Nat.ble n 60 with
            | true => some (.bytes (repL n x) (n * m), σ)
            | false => none
          | .negSucc _ => none
        | _ => none
  | _ => none
noncomputable def subV (a b : AV) (σ : H) : Option (AV × H) := match ival a with
  | some i => match ival b with
    | some j => match knOf a with
      | .itv l h => some (.int (i - j) (.itv (l - j) (h - j)), σ)
      | _ => some (.int (i - j) .any, σ)
    | none => none
  | none => none
noncomputable def binV (op : Operator) (lit1 : Bool) (a b : AV) (σ : H) : Option (AV × H) := match op with
  | .Add => addV a b σ
  | .Mult => mulV a b σ
  | .Sub => match lit1 with
    | true => match b with
      | .bit c => match a with
        | .int i _ => match i with
          | .ofNat n => match Nat.beq n 1 with
            | true => some (.bit (!c), σ)
            | false => none
          | .negSucc _ => none
        | _ => none
      | _ => subV a b σ
    | false => subV a b σ
  | _ => match ival a with
    | some i => match intOp op i a b with
      | some v => some (v, σ)
      | none => none
    | none => none
noncomputable def augV (op : Operator) (a b : AV) (σ : H) : Option (AV × H) := match op with
  | .Add => match a with
    | .obj k => match b with
      | .obj k' => match Nat.beq k k' with
        | true => none
        | false => match listAt σ k with
          | some xs => match listAt σ k' with
            | some ys => match Nat.ble (xs.length + ys.length) 1000 with
              | true => some (.obj k, σ.set k (.list (xs ++ ys)))
              | false => none
            | none => none
          | none => none
      | _ => none
    | _ => match ival a with
      | some i => match ival b with
        | some j => some (.int (i + j) .any, σ)
        | none => none
      | none => none
  | .LShift => match a with
    | .int i kn => match b with
      | .int j _ => match smallK kn i with
        | true => match j with
          | .ofNat n => match Nat.ble n 1000 with
            | true => match kn with
              | .itv l h => some (.int (i * 2 ^ n) (.itv (l * 2 ^ n) (h * 2 ^ n)), σ)
              | _ => some (.int (i * 2 ^ n) .any, σ)
            | false => none
          | .negSucc _ => none
        | false => none
      | _ => none
    | _ => none
  | _ => none
noncomputable def truth (v : AV) (_ : H) : Option Bool := match v with
  | .bool b => some b
  | .int i _ => some (i != 0)
  | .bit b => some b
  | .bytes l n => match Nat.ble n 1000 with
    | true => some (nonE l)
    | false => none
  | _ => none
noncomputable def unV (op : UnaryOp) (v : AV) (σ : H) : Option AV := match op with
  | .Not => match truth v σ with
    | some b => some (.bool (!b))
    | none => none
  | .Invert => match v with
    | .int i _ => some (.int (-i - 1) .any)
    | _ => none
  | .USub => match v with
    | .int i kn => match kn with
      | .itv l h => some (.int (-i) (.itv (-h) (-l)))
      | _ => some (.int (-i) .any)
    | _ => none
  | _ => none
noncomputable def eqInts : List Int → List Int → Bool
  | [], [] => true
  | a :: x, b :: y => (a == b) && eqInts x y
  | _, _ => false
noncomputable def anyEq (i : Int) : List Int → Bool
  | [] => false
  | a :: x => (a == i) || anyEq i x
noncomputable def eqV (a b : AV) (σ : H) : Option Bool := match a with
  | .bit c => match b with
    | .int j _ => match j with
      | .ofNat n => match n with
        | 0 => some (!c)
        | m + 1 => match m with
          | 0 => some c
          | _ + 1 => some false
      | .negSucc _ => some false
    | .bit d => some (c == d)
    | _ => none
  | .int i _ => match ival b with
    | some j => some (i == j)
    | none => none
  | .bool c => match b with
    | .bool d => some (c == d)
    | _ => none
  | .chr i _ => match b with
    | .chr j _ => some (i == j)
    | _ => none
  | .bytes x _ => match b with
    | .bytes y _ => some (x == y)
    | _ => none
  | .obj k => match b with
    | .obj k' => match listAt σ k with
      | some xs => match listAt σ k' with
        | some ys => match ivals xs with
          | some l => match ivals ys with
            | some l' => some (eqInts l l')
            | none => none
          | none => none
        | none => none
      | none => none
    | _ => none
  | _ => none
/-- the table of in_table_c4 -/
noncomputable def c4B (c : Int) : Bool := match decide (c < 64976) with
  | true => false
  | false => match decide (c < 65008) with
    | true => true
    | false => anyEq (Builtin.bitAnd c 65535) [65534, 65535]
/-- the seven tables, as the law lists them -/
noncomputable def tabB (j : Nat) (c : Int) : Bool := match j with
  | 0 => anyEq c (setElems 0)
  | 1 => c == 32
  | 2 => c4B c
  | 3 => anyEq c (setElems 1)
  | 4 => anyEq c (setElems 2)
  | 5 => anyEq c (setElems 3)
  | 6 => anyEq c (setElems 4)
  | _ => false
noncomputable def inV (a b : AV) (σ : H) : Option Bool := match ival a with
  | some i => match b with
    | .obj k => match itemsAt σ k with
      | some xs => match ivals xs with
        | some l => some (anyEq i l)
        | none => none
      | none => none
    | .bytes l _ => match a with
      | .int i _ => match i with
        | .ofNat n => match Nat.blt n 256 with
          | true => some (l.contains (UInt8.ofNat n))
          | false => none
        | .negSucc _ => none
      | _ => none
    | .set k => match Nat.blt k 5 with
      | true => some (anyEq i (setElems k))
      | false => none
    | _ => none
  | none => none
noncomputable def leA (ka : Kn) (i j : Int) : Bool := match ka with
  | .itv l h => match decide (h ≤ j) with
    | true => true
    | false => match decide (j < l) with
      | true => false
      | false => decide (i ≤ j)
  | _ => decide (i ≤ j)
/-- is i at most j: by what is known, else by the figures -/
noncomputable def leK (ka kb : Kn) (i j : Int) : Bool := match kb with
  | .itv l h => match decide (i ≤ l) with
    | true => true
    | false => match decide (h < i) with
      | true => false
      | false => decide (i ≤ j)
  | _ => leA ka i j
noncomputable def cmpV (op : CmpOp) (a b : AV) (σ : H) : Option Bool := match op with
  | .Eq => eqV a b σ
  | .NotEq => match eqV a b σ with
    | some c => some (!c)
    | none => none
  | .In => inV a b σ
  | .NotIn => match inV a b σ with
    | some c => some (!c)
    | none => none
  | .IsNot => match a with
    | .bool c => match b with
      | .bool d => some (c != d)
      | _ => none
    | .obj k => match b with
      | .obj k' => match listAt σ k with
        | some _ => some (!(Nat.beq k k'))
        | none => none
      | _ => none
    | _ => none
  | _ => match ival a with
    | some i => match ival b with
      | some j => match op with
        | .Lt => some (!(leK (knOf b) (knOf a) j i))
        | .LtE => some (leK (knOf a) (knOf b) i j)
        | .Gt => some (!(leK (knOf a) (knOf b) i j))
        | .GtE => some (leK (knOf b) (knOf a) j i)
        | _ => none
      | none => none
    | none => none
noncomputable def idxOf (i : Int) (n : Nat) : Option Nat := match Nat.ble n 1000 with
  | true => match i with
    | .ofNat m => match Nat.blt m n with
      | true => some m
      | false => none
    | .negSucc m => match Nat.blt m n with
      | true => some (n - (m + 1))
      | false => none
  | false => none
noncomputable def itemV (a b : AV) (σ : H) : Option AV := match a with
  | .obj k => match ival b with
    | some i => match itemsAt σ k with
      | some xs => match idxOf i xs.length with
        | some j => xs[j]?
        | none => none
      | none => none
    | none => none
  | _ => none
noncomputable def setItemV (a b v : AV) (σ : H) : Option H := match a with
  | .obj k => match b with
    | .int i _ => match listAt σ k with
      | some xs => match i with
        | .negSucc _ => none
        | .ofNat _ => match idxOf i xs.length with
          | some j => some (σ.set k (.list (xs.set j v)))
          | none => none
      | none => none
    | _ => none
  | _ => none
noncomputable def nth3 {α : Type} : Nat → List α → List α
  | _, [] => []
  | 0, a :: x => a :: nth3 2 x
  | n + 1, _ :: x => nth3 n x
/-- a slice: l, u, s the three parts' values -/
noncomputable def sliceV (a : AV) (l u s : Option AV) (ns : List Int) (σ : H) : Option (AV × H) := match a with
  | .obj k => match listAt σ k with
    | some xs => match Nat.ble xs.length 1000 with
      | false => none
      | true => match l with
        | some _ => none
        | none => match s with
          | none => match u with
            | none => some (.obj σ.length, σ ++ [.list xs])
            | some b => match b with
              | .int i _ => match i with
                | .ofNat n => match Nat.ble n xs.length with
                  | true => some (.obj σ.length, σ ++ [.list (xs.take n)])
                  | false => none
                | .negSucc _ => none
              | _ => none
          | some b => match u with
            | some _ => none
            | none => match b with
              | .int i _ => match i with
                | .negSucc n => match n with
                  | 0 => some (.obj σ.length, σ ++ [.list xs.reverse])
                  | _ + 1 => none
                | .ofNat _ => none
              | _ => none
    | none => none
  | .scr => match l with
    | some b => match u with
      | some _ => none
      | none => match s with
        | some c => match natOf b with
          | some n => match natOf c with
            | some m => match Nat.beq m 3 with
              | true => some (.obj σ.length, σ ++ [.ints (nth3 n ns)])
              | false => none
            | none => none
          | none => none
        | none => none
    | none => none
  | .bytes x m => match Nat.ble m 1000 with
    | false => none
    | true => match s with
      | some _ => none
      | none => match u with
        | none => none
        | some b => match natOf b with
          | none => none
          | some j => match l with
            | none => some (.bytes (x.take j) m, σ)
            | some c => match natOf c with
              | some i => some (.bytes ((x.take j).drop i) m, σ)
              | none => none
  | _ => none
noncomputable def sumL : List Int → Int
  | [] => 0
  | a :: x => a + sumL x
noncomputable def sumFrom (a : Int) : List Int → Int
  | [] => a
  | b :: x => sumFrom (a + b) x
noncomputable def chrN (i : Int) (σ : H) : Option (AV × H) := match i with
  | .ofNat n => match Nat.blt n 1114112 with
    | true => some (.chr i .any, σ)
    | false => none
  | .negSucc _ => none
noncomputable def biV (id : Nat) (args : List AV) (σ : H) : Option (AV × H) := match args with
  | [a] => match id with
    | 0 => match a with
      | .obj k => match listAt σ k with
        | some xs => match Nat.ble xs.length 1000 with
          | true => some (.int (Int.ofNat xs.length) .any, σ)
          | false => none
        | none => none
      | .bytes l n => match Nat.ble n 1000 with
        | true => some (.int (Int.ofNat l.length) .any, σ)
        | false => none
      | _ => none
    | 1 => match a with
      | .obj k => match σ[k]? with
        | some (.list xs) => match ivals xs with
          | some l => some (.int (sumFrom 0 l) .any, σ)
          | none => none
        | some (.ints l) => some (.int (sumFrom 0 l) .any, σ)
        | _ => none
      | _ => none
    | 2 => match a with
      | .chr i _ => some (.int i (.lt 1114112), σ)
      | _ => none
    | 3 => match a with
      | .int i kn => match kn with
        | .lt k => match Nat.ble k 1114112 with
          | true => some (.chr i .any, σ)
          | false => none
        | .tab j b => some (.chr i (.tab j b), σ)
        | _ => chrN i σ
      | _ => none
    | 4 => match a with
      | .int i _ => some (.int (Int.ofNat i.natAbs) .any, σ)
      | _ => none
    | _ => none
  | [a, b] => match id with
    | 5 => match a with
      | .int i _ => match b with
        | .int j _ => match j with
          | .ofNat n => match n with
            | 0 => none
            | m + 1 => match Nat.blt (m + 1) 1073741824 with
              | true => some (.obj σ.length, σ ++ [.tup [.int (Int.fdiv i (Int.ofNat (m + 1))) .any, .int (Int.fmod i (Int.ofNat (m + 1))) (.lt (m + 1))]])
              | false => none
          | .negSucc _ => none
        | _ => none
      | _ => none
    | 6 => match a with
      | .bytes _ _ => match b with
        | .typ n => match n with
          | 3 => some (.bool true, σ)
          | _ => none
        | _ => none
      | _ => none
    | _ => none
  | _ => none

inductive Item where
  | one (v : AV)
  | two (i : Nat) (v : AV)
/-- what a loop's source gives at turn i: nothing (stuck), the end, an item -/
noncomputable def srcAt (σ : H) (s : Src) (i : Nat) : Option (Option Item) := match s with
  | .rng a n => match Nat.blt i n with
    | true => some (some (.one (.int (a + (Int.ofNat i)) .any)))
    | false => some none
  | .lst k => match listAt σ k with
    | some xs => match xs[i]? with
      | some v => some (some (.one v))
      | none => some none
    | none => none
  | .enu k => match listAt σ k with
    | some xs => match xs[i]? with
      | some v => some (some (.two i v))
      | none => some none
    | none => none
  | .byt l => match l[i]? with
    | some b => some (some (.one (.int (Int.ofNat b.toNat) .any)))
    | none => some none

noncomputable abbrev Orc := Nat → List AV → H → Option (AV × H)

noncomputable def constV : Const → Option AV
  | .none => some .none
  | .bool b => some (.bool b)
  | .int i => some (.int i .any)
  | .bytes b => some (.bytes b b.length)
  | .str s => match s.cps.toList with
    | [c] => match Nat.blt c 1114112 with
      | true => some (.chr (Int.ofNat c) .any)
      | false => none
    | _ => none
  | _ => none
noncomputable def isOne : Expr → Bool
  | .Constant (.int (.ofNat n)) _ _ => Nat.beq n 1
  | _ => false
theorem opt_inv {α β : Type} {o : Option α} {f : α → Option β} {y : β} (h : (match o with
    | some x => f x
    | none => none) = some y) : ∃ x, o = some x ∧ f x = some y := by
  cases o with
  | none => cases h
  | some x => exact ⟨x, rfl, h⟩
theorem opt2_inv {α γ β : Type} {o : Option (α × γ)} {f : α → γ → Option β} {y : β} (h : (match o with
    | some (x, z) => f x z
    | none => none) = some y) : ∃ x z, o = some (x, z) ∧ f x z = some y := by
  cases o with
  | none => cases h
  | some x => exact ⟨x.1, x.2, rfl, h⟩
theorem bool_inv {β : Type} {b : Bool} {r : Option β} {y : β} (h : (match b with
    | true => r
    | false => none) = some y) : b = true ∧ r = some y := by
  cases b with
  | true => exact ⟨rfl, h⟩
  | false => cases h
theorem boolF_inv {β : Type} {b : Bool} {r : Option β} {y : β} (h : (match b with
    | true => none
    | false => r) = some y) : b = false ∧ r = some y := by
  cases b with
  | true => cases h
  | false => exact ⟨rfl, h⟩
theorem some_pair {α β : Type} {a a' : α} {b b' : β} (h : some (a, b) = some (a', b')) : a = a' ∧ b = b' := by
  cases h; exact ⟨rfl, rfl⟩
theorem some_inj {α : Type} {a a' : α} (h : some a = some a') : a = a' := by
  cases h; rfl
theorem none_ne {α : Type} {x : α} {P : Prop} (h : (none : Option α) = some x) : P := by
  cases h
end Mine
open PySem PySem.W PyProof.Rows
namespace Mine

noncomputable def isStarredB : Expr → Bool
  | .Starred .. => true
  | _ => false
noncomputable def isSliceB : Expr → Bool
  | .Slice .. => true
  | _ => false
noncomputable def isZero : Int → Bool
  | .ofNat 0 => true
  | _ => false
noncomputable def isSetB : Expr → Bool
  | .Set .. => true
  | _ => false
noncomputable def tgtB : Expr → Bool
  | .Name .. => true
  | .Subscript .. => true
  | .Tuple .. => true
  | _ => false
noncomputable def isNameB : Expr → Bool
  | .Name .. => true
  | _ => false
noncomputable def appS : Str := "append"

noncomputable def toE (r : Option (Res × H)) (k : AV → H → Option (Res × H)) : Option (Res × H) := match r with
  | some (.v v, σ) => k v σ
  | _ => none
noncomputable def toB (r : Option (Res × H)) (k : Bool → H → Option (Res × H)) : Option (Res × H) := match r with
  | some (.b v, σ) => k v σ
  | _ => none
noncomputable def toF (r : Option (Res × H)) (k : AF → H → Option (Res × H)) : Option (Res × H) := match r with
  | some (.f v, σ) => k v σ
  | _ => none
noncomputable def toFl (r : Option (Res × H)) (k : AF → Fl → H → Option (Res × H)) : Option (Res × H) := match r with
  | some (.fl f w, σ) => k f w σ
  | _ => none
noncomputable def toVs (r : Option (Res × H)) (k : List AV → H → Option (Res × H)) : Option (Res × H) := match r with
  | some (.vs v, σ) => k v σ
  | _ => none
noncomputable def toSrc (r : Option (Res × H)) (k : Src → H → Option (Res × H)) : Option (Res × H) := match r with
  | some (.src v, σ) => k v σ
  | _ => none
/-- an optional part of a slice -/
noncomputable def optE (ih : EvT) (f : AF) (x : Option Expr) (σ : H) (k : Option AV → H → Option (Res × H)) : Option (Res × H) := match x with
  | none => k none σ
  | some e => toE (ih (.e f e) σ) fun v σ => k (some v) σ
noncomputable def giveV (r : Option (AV × H)) : Option (Res × H) := match r with
  | some (v, σ) => some (.v v, σ)
  | none => none
noncomputable def giveB (r : Option Bool) (σ : H) : Option (Res × H) := match r with
  | some b => some (.b b, σ)
  | none => none

section
variable (ns : List Int) (orc : Orc) (ih : EvT)

noncomputable def applyV (g : AV) (args : List AV) (σ : H) : Option (Res × H) := match g with
  | .fn i => match Nat.blt i 23 with
    | true => match orc i args σ with
      | some (v, σ') => some (.v v, σ')
      | none => ih (.ca i args) σ
    | false => none
  | .bi n => giveV (biV n args σ)
  | .typ n => match n with
    | 2 => match args with
      | [.int i kn] => some (.v (.int i kn), σ)
      | _ => none
    | _ => none
  | _ => none

/-- list.append -/
noncomputable def appendV (a v : AV) (σ : H) : Option (Res × H) := match a with
  | .obj k => match listAt σ k with
    | some xs => match Nat.ble xs.length 1000 with
      | true => some (.v .none, σ.set k (.list (xs ++ [v])))
      | false => none
    | none => none
  | _ => none

/-- the names of a comprehension's scope, seen from the frame about it -/
noncomputable def compNames (f : AF) (all : List (Str × NameKind)) : List (Str × NameKind) → Bool
  | [] => true
  | (x, k) :: r => match k with
    | .local => match slot all x with
      | some (_, .local) => compNames f all r
      | _ => false
    | .free => match slot f.names x with
      | some (_, .cell) => compNames f all r
      | some (_, .free) => compNames f all r
      | _ => false
    | .globalImplicit => compNames f all r
    | _ => false
noncomputable def isFn : ScopeKind → Bool
  | .function => true
  | _ => false
noncomputable def compE (f : AF) (elt : Expr) (gens : List Comprehension) (sc : Scope) (σ : H) : Option (Res × H) := match gens with
  | [] => none
  | g :: _ => match isFn sc.kind with
    | false => none
    | true => match compNames f sc.names sc.names with
      | false => none
      | true => match isZero g.is_async with
        | false => none
        | true => toSrc (ih (.it f g.iter) σ) fun src σ => toF (ih (.co (compFrame sc.names f) elt gens src 0 σ.length) (σ ++ [.list []])) fun _ σ' => some (.v (.obj σ.length), σ')

noncomputable def stE (f : AF) (x : Expr) (σ : H) : Option (Res × H) := match x with
  | .Constant c _ _ => match constV c with
    | some v => some (.v v, σ)
    | none => none
  | .Name id _ => match getVar f id with
    | some v => some (.v v, σ)
    | none => none
  | .BinOp l op r _ => toE (ih (.e f l) σ) fun a σ => toE (ih (.e f r) σ) fun b σ => giveV (binV op (isOne l) a b σ)
  | .UnaryOp op y _ => toE (ih (.e f y) σ) fun a σ => match unV op a σ with
    | some v => some (.v v, σ)
    | none => none
  | .IfExp t a b _ => toB (ih (.t f t) σ) fun c σ => match c with
    | true => ih (.e f a) σ
    | false => ih (.e f b) σ
  | .List es _ => toVs (ih (.es f es) σ) fun vs σ => match Nat.ble vs.length 1000 with
    | true => some (.v (.obj σ.length), σ ++ [.list vs])
    | false => none
  | .Tuple es _ _ => toVs (ih (.es f es) σ) fun vs σ => match Nat.ble vs.length 1000 with
    | true => some (.v (.obj σ.length), σ ++ [.tup vs])
    | false => none
  | .ListComp elt gens sc _ => compE ih f elt gens sc σ
  | .Compare l ops cs _ => toE (ih (.e f l) σ) fun a σ => ih (.ch f a ops cs) σ
  | .Call g args kws p => match kws with
    | _ :: _ => none
    | [] => match g with
      | .Attribute o name ap => match sEqB name appS with
        | true => match args with
          | [y] => match isStarredB y with
            | true => none
            | false => match isNameB o with
              | false => none
              | true => match Nat.beq ap.endLine p.line with
                | false => none
                | true => toE (ih (.e f o) σ) fun a σ => match a with
                  | .obj k => match listAt σ k with
                    | some _ => toE (ih (.e f y) σ) fun v σ => appendV (.obj k) v σ
                    | none => none
                  | _ => none
          | _ => none
        | false => none
      | _ => toE (ih (.e f g) σ) fun a σ => toVs (ih (.es f args) σ) fun vs σ => applyV orc ih a vs σ
  | .Subscript o i _ => match i with
    | .Slice l u s _ => toE (ih (.e f o) σ) fun a σ => optE ih f l σ fun lv σ => optE ih f u σ fun uv σ => optE ih f s σ fun sv σ => giveV (sliceV a lv uv sv ns σ)
    | _ => toE (ih (.e f o) σ) fun a σ => toE (ih (.e f i) σ) fun b σ => match itemV a b σ with
      | some v => some (.v v, σ)
      | none => none
  | _ => none

noncomputable def stEs (f : AF) (xs : List Expr) (σ : H) : Option (Res × H) := match xs with
  | [] => some (.vs [], σ)
  | x :: r => match isStarredB x with
    | true => none
    | false => toE (ih (.e f x) σ) fun v σ => toVs (ih (.es f r) σ) fun vs σ => some (.vs (v :: vs), σ)

noncomputable def stT (f : AF) (x : Expr) (σ : H) : Option (Res × H) := match x with
  | .UnaryOp .Not y _ => toB (ih (.t f y) σ) fun b σ => some (.b (!b), σ)
  | .BoolOp op vs _ => ih (.ts f op vs) σ
  | .IfExp .. => none
  | .Compare l ops cs _ => toE (ih (.e f l) σ) fun a σ => ih (.tch f a ops cs) σ
  | x => toE (ih (.e f x) σ) fun v σ => giveB (truth v σ) σ

noncomputable def stTs (f : AF) (op : BoolOp) (xs : List Expr) (σ : H) : Option (Res × H) := match op with
  | .And => match xs with
    | [] => some (.b true, σ)
    | x :: r => toB (ih (.t f x) σ) fun b σ => match b with
      | true => ih (.ts f .And r) σ
      | false => some (.b false, σ)
  | .Or => match xs with
    | [] => some (.b false, σ)
    | x :: r => toB (ih (.t f x) σ) fun b σ => match b with
      | true => some (.b true, σ)
      | false => ih (.ts f .Or r) σ

noncomputable def stCh (f : AF) (l : AV) (ops : List CmpOp) (xs : List Expr) (σ : H) : Option (Res × H) := match ops with
  | [op] => match xs with
    | [x] => match behindInMarks op x with
      | true => none
      | false => toE (ih (.e f x) σ) fun r σ => match cmpV op l r σ with
        | some b => some (.v (.bool b), σ)
        | none => none
    | _ => none
  | _ => none
noncomputable def stTch (f : AF) (l : AV) (ops : List CmpOp) (xs : List Expr) (σ : H) : Option (Res × H) := match ops with
  | [] => none
  | op :: ops' => match xs with
    | [] => none
    | x :: xs' => match behindInMarks op x with
      | true => none
      | false => toE (ih (.e f x) σ) fun r σ => match cmpV op l r σ with
        | none => none
        | some b => match ops' with
          | [] => match xs' with
            | [] => some (.b b, σ)
            | _ :: _ => none
          | _ :: _ => match xs' with
            | [] => none
            | _ :: _ => match b with
              | true => ih (.tch f r ops' xs') σ
              | false => some (.b false, σ)

noncomputable def stAs (f : AF) (t : Expr) (v : AV) (σ : H) : Option (Res × H) := match t with
  | .Name id _ => match setVar f id v with
    | some f' => some (.f f', σ)
    | none => none
  | .Subscript o i _ => match isSliceB i with
    | true => none
    | false => toE (ih (.e f o) σ) fun a σ => toE (ih (.e f i) σ) fun b σ => match setItemV a b v σ with
      | some σ' => some (.f f, σ')
      | none => none
  | .Tuple ts _ _ => match v with
    | .obj k => match σ[k]? with
      | some (.tup xs) => match Nat.beq xs.length ts.length with
        | true => ih (.asn f ts xs) σ
        | false => none
      | _ => none
    | _ => none
  | _ => none
noncomputable def stAsp (f : AF) (t : Expr) (i : Nat) (v : AV) (σ : H) : Option (Res × H) := match t with
  | .Tuple ts _ _ => match ts with
    | [_, _] => ih (.asn f ts [.int (Int.ofNat i) .any, v]) σ
    | _ => none
  | _ => none
noncomputable def stAsn (f : AF) (ts : List Expr) (vs : List AV) (σ : H) : Option (Res × H) := match ts with
  | [] => match vs with
    | [] => some (.f f, σ)
    | _ :: _ => none
  | t :: ts' => match vs with
    | [] => none
    | v :: vs' => match isStarredB t with
      | true => none
      | false => toF (ih (.as f t v) σ) fun f' σ => ih (.asn f' ts' vs') σ

noncomputable def stS (f : AF) (st : Stmt) (σ : H) : Option (Res × H) := match st with
  | .Return (some x) _ => toE (ih (.e f x) σ) fun v σ => some (.fl f (.ret v), σ)
  | .If t a b _ => toB (ih (.t f t) σ) fun c σ => match c with
    | true => ih (.ss f a) σ
    | false => ih (.ss f b) σ
  | .Expr x _ => toE (ih (.e f x) σ) fun v σ => match v with
    | .none => match x with
      | .Call .. => some (.fl f .next, σ)
      | _ => none
    | _ => none
  | .Assign [t] x _ => match x with
    | .Tuple .. => none
    | .SetComp .. => none
    | .DictComp .. => none
    | .ListComp elt gens sc _ => match isNameB t with
      | true => toE (compE ih f elt gens sc σ) fun v σ => toF (ih (.as f t v) σ) fun f' σ => some (.fl f' .next, σ)
      | false => none
    | _ => match tgtB t with
      | true => toE (ih (.e f x) σ) fun v σ => toF (ih (.as f t v) σ) fun f' σ => some (.fl f' .next, σ)
      | false => none
  | .AugAssign (.Name id _) op x _ => match getVar f id with
    | some a => toE (ih (.e f x) σ) fun b σ => match augV op a b σ with
      | some (v, σ) => match setVar f id v with
        | some f' => some (.fl f' .next, σ)
        | none => none
      | none => none
    | none => none
  | .For tgt x body orelse _ => match orelse with
    | _ :: _ => none
    | [] => toSrc (ih (.it f x) σ) fun src σ => ih (.fo f tgt src 0 body) σ
  | .While t body orelse _ => match orelse with
    | _ :: _ => none
    | [] => ih (.wh f t body) σ
  | _ => none

noncomputable def stSs (f : AF) (sts : List Stmt) (σ : H) : Option (Res × H) := match sts with
  | [] => some (.fl f .next, σ)
  | s :: r => toFl (ih (.s f s) σ) fun f' w σ => match w with
    | .next => ih (.ss f' r) σ
    | w => some (.fl f' w, σ)

/-- a range's start and length, of its arguments -/
noncomputable def rngV (vs : List AV) : Option Src := match vs with
  | [a] => match a with
    | .int i _ => match i with
      | .ofNat n => match Nat.ble n 1000 with
        | true => some (.rng 0 n)
        | false => none
      | .negSucc _ => none
    | _ => none
  | [a, b] => match a with
    | .int i _ => match b with
      | .int j _ => match i with
        | .ofNat n => match j with
          | .ofNat m => match Nat.ble n 1000 with
            | true => match Nat.ble m 1000 with
              | true => some (.rng (Int.ofNat n) (m - n))
              | false => none
            | false => none
          | .negSucc _ => none
        | .negSucc _ => none
      | _ => none
    | _ => none
  | _ => none
noncomputable def enuV (vs : List AV) (σ : H) : Option Src := match vs with
  | [a] => match a with
    | .obj k => match listAt σ k with
      | some _ => some (.enu k)
      | none => none
    | _ => none
  | _ => none
noncomputable def giveS (r : Option Src) (σ : H) : Option (Res × H) := match r with
  | some s => some (.src s, σ)
  | none => none
noncomputable def itV (v : AV) (σ : H) : Option Src := match v with
  | .obj k => match listAt σ k with
    | some _ => some (.lst k)
    | none => none
  | .bytes l n => match Nat.ble n 1000 with
    | true => some (.byt l)
    | false => none
  | _ => none
noncomputable def callName : Expr → Option (Str × List Expr)
  | .Call (.Name g _) args [] _ => some (g, args)
  | _ => none
noncomputable def stIt (f : AF) (x : Expr) (σ : H) : Option (Res × H) := match callName x with
  | some (g, args) => match getVar f g with
    | some (.typ k) => match k with
      | 0 => toVs (ih (.es f args) σ) fun vs σ => giveS (rngV vs) σ
      | 1 => toVs (ih (.es f args) σ) fun vs σ => giveS (enuV vs σ) σ
      | _ => none
    | _ => none
  | none => match isSetB x with
    | true => none
    | false => toE (ih (.e f x) σ) fun v σ => giveS (itV v σ) σ

noncomputable def asItem (f : AF) (tgt : Expr) (it : Item) (σ : H) : Option (Res × H) := match it with
  | .one v => ih (.as f tgt v) σ
  | .two i v => ih (.asp f tgt i v) σ

noncomputable def stFo (f : AF) (tgt : Expr) (src : Src) (i : Nat) (body : List Stmt) (σ : H) : Option (Res × H) := match srcAt σ src i with
  | none => none
  | some none => some (.fl f .next, σ)
  | some (some it) => toF (asItem ih f tgt it σ) fun f σ => toFl (ih (.ss f body) σ) fun f w σ => match w with
    | .next => ih (.fo f tgt src (i + 1) body) σ
    | .cont => ih (.fo f tgt src (i + 1) body) σ
    | .brk => some (.fl f .next, σ)
    | .ret v => some (.fl f (.ret v), σ)

noncomputable def stWh (f : AF) (t : Expr) (body : List Stmt) (σ : H) : Option (Res × H) := toB (ih (.t f t) σ) fun c σ => match c with
  | false => some (.fl f .next, σ)
  | true => toFl (ih (.ss f body) σ) fun f w σ => match w with
    | .next => ih (.wh f t body) σ
    | .cont => ih (.wh f t body) σ
    | .brk => some (.fl f .next, σ)
    | .ret v => some (.fl f (.ret v), σ)

noncomputable def stIfs (f : AF) (xs : List Expr) (σ : H) : Option (Res × H) := match xs with
  | [] => some (.b true, σ)
  | x :: r => toB (ih (.t f x) σ) fun b σ => match b with
    | true => ih (.ifs f r) σ
    | false => some (.b false, σ)

noncomputable def stCo (f : AF) (elt : Expr) (gens : List Comprehension) (src : Src) (i : Nat) (acc : Nat) (σ : H) : Option (Res × H) := match gens with
  | [] => none
  | g :: rest => match isZero g.is_async with
    | false => none
    | true => match srcAt σ src i with
      | none => none
      | some none => some (.f f, σ)
      | some (some it) => toF (asItem ih f g.target it σ) fun f σ => toB (ih (.ifs f g.ifs) σ) fun ok σ => match ok with
        | false => ih (.co f elt gens src (i + 1) acc) σ
        | true => match rest with
          | [] => toE (ih (.e f elt) σ) fun v σ => toE (appendV (.obj acc) v σ) fun _ σ => ih (.co f elt gens src (i + 1) acc) σ
          | g' :: _ => match isZero g'.is_async with
            | false => none
            | true => toSrc (ih (.it f g'.iter) σ) fun src' σ => toF (ih (.co f elt rest src' 0 acc) σ) fun f σ => ih (.co f elt gens src (i + 1) acc) σ

noncomputable def memS (x : Str) : List Str → Bool
  | [] => false
  | y :: r => match sEqB x y with
    | true => true
    | false => memS x r
noncomputable def nodupS : List Str → Bool
  | [] => true
  | x :: r => match memS x r with
    | true => false
    | false => nodupS r
noncomputable def noFree : List (Str × NameKind) → Bool
  | [] => true
  | (_, k) :: r => match k with
    | .free => false
    | _ => noFree r
noncomputable def plainP : Arguments → Bool
  | ⟨[], args, none, [], _, none, _⟩ => nodupS (args.map (·.arg))
  | _ => false
noncomputable def fnOk (fn : Fn) : Bool := match plainP fn.params with
  | false => false
  | true => match noFree fn.scope.names with
    | false => false
    | true => match isFn fn.scope.kind with
      | false => false
      | true => match fn.scope.isCoroutine with
        | true => false
        | false => match fn.scope.isGenerator with
          | true => false
          | false => true
noncomputable def stCa (i : Nat) (args : List AV) (σ : H) : Option (Res × H) := match Nat.blt i 23 with
  | false => none
  | true => match fnOf i with
    | none => none
    | some fn => match fnOk fn with
      | false => none
      | true => match bindAll ⟨fn.scope.names, freshVals fn.scope.names⟩ fn.params.args args with
        | none => none
        | some f => toFl (ih (.ss f fn.body) σ) fun _ w σ => match w with
          | .next => some (.v .none, σ)
          | .ret v => some (.v v, σ)
          | _ => none

noncomputable def stepEv : EvT := fun q σ => match q with
  | .e f x => stE ns orc ih f x σ
  | .es f xs => stEs ih f xs σ
  | .t f x => stT ih f x σ
  | .ts f op xs => stTs ih f op xs σ
  | .ch f l ops xs => stCh ih f l ops xs σ
  | .tch f l ops xs => stTch ih f l ops xs σ
  | .as f t v => stAs ih f t v σ
  | .asp f t i v => stAsp ih f t i v σ
  | .asn f ts vs => stAsn ih f ts vs σ
  | .s f st => stS ih f st σ
  | .ss f sts => stSs ih f sts σ
  | .it f x => stIt ih f x σ
  | .fo f tgt src i body => stFo ih f tgt src i body σ
  | .wh f t body => stWh ih f t body σ
  | .ifs f xs => stIfs ih f xs σ
  | .co f elt gens src i acc => stCo ih f elt gens src i acc σ
  | .ca i args => stCa ih i args σ
end

noncomputable def ev (ns : List Int) (orc : Orc) : Nat → EvT
  | 0 => fun _ _ => none
  | n + 1 => stepEv ns orc (ev ns orc n)
noncomputable def noOrc : Orc := fun _ _ _ => none
end Mine
set_option maxRecDepth 100000
open PySem PySem.W PyProof.Rows
namespace Mine

/-! THE RELATION between the abstract state and the model's -/

noncomputable def typName : Nat → String
  | 0 => "range" | 1 => "enumerate" | 2 => "int" | _ => "bytes"
noncomputable def biName : Nat → String
  | 0 => "len" | 1 => "sum" | 2 => "ord" | 3 => "chr" | 4 => "abs" | 5 => "divmod" | _ => "isinstance"
noncomputable abbrev listO (items : Array Value) (n : Nat) : Obj := { cls := .type "list", dict := none, data := .seq items n, slots := #[] }
noncomputable abbrev tupO (items : Array Value) (n : Nat) : Obj := { cls := .type "tuple", dict := none, data := .seq items n, slots := #[] }

structure Cx where
  w : World
  ns : List Int
  h₀ : Heap
  s₁ : Shared
  ℓ : Addr
  fa : Nat → Addr
  sa : Nat → Addr

noncomputable def Cx.st (C : Cx) (h : Heap) (tk : Nat) : Shared := { C.s₁ with heap := h, toks := tk }

noncomputable def knOk (i : Int) : Kn → Prop
  | .any => True
  | .lt k => 0 ≤ i ∧ i < k
  | .res m r => ∃ q : Int, i = m * q + r
  | .itv l h => l ≤ i ∧ i ≤ h
  | .tab j b => 0 ≤ i ∧ i < 1114112 ∧ tabB j i = b

noncomputable def VR (C : Cx) (ρ : List Addr) : AV → Value → Prop
  | .none, v => v = .none
  | .bool b, v => v = .bool b
  | .int i kn, v => (∃ t, v = .int i t) ∧ knOk i kn
  | .bit b, v => ∃ t, v = .int (bI b) t
  | .chr i kn, v => (∃ (c : Nat) (t : Tok), i = (c : Int) ∧ c < 1114112 ∧ v = .str ⟨#[c]⟩ t) ∧ knOk i kn
  | .bytes l n, v => (∃ t, v = .bytes l.toArray t) ∧ l.length ≤ n
  | .typ n, v => v = .type (typName n)
  | .bi n, v => v = .builtin (biName n)
  | .fn i, v => v = .ref (C.fa i)
  | .set k, v => v = .ref (C.sa k)
  | .scr, v => v = .ref C.ℓ
  | .obj k, v => ∃ a, ρ[k]? = some a ∧ v = .ref a

noncomputable def VRs (C : Cx) (ρ : List Addr) : List AV → List Value → Prop
  | [], vs => vs = []
  | a :: as, vs => ∃ u us, vs = u :: us ∧ VR C ρ a u ∧ VRs C ρ as us

noncomputable def OR (C : Cx) (ρ : List Addr) : AO → Obj → Prop
  | .list xs, o => ∃ vs n, o = listO vs.toArray n ∧ VRs C ρ xs vs
  | .tup xs, o => ∃ vs n, o = tupO vs.toArray n ∧ VRs C ρ xs vs
  | .ints l, o => ∃ vs n, o = listO vs.toArray n ∧ IntsAre vs l

structure RR (C : Cx) (ρ : List Addr) (σ : H) (h : Heap) : Prop where
  len : ρ.length = σ.length
  nd : ρ.Nodup
  base : ∀ b o, C.h₀.get? b = some o → h.get? b = some o
  new : ∀ a ∈ ρ, C.h₀.get? a = none
  obj : ∀ (k : Nat) a ao, ρ[k]? = some a → σ[k]? = some ao → ∃ o, h.get? a = some o ∧ OR C ρ ao o

/-- all but the objects of ρ is kept -/
noncomputable def Kp (ρ : List Addr) (h h' : Heap) : Prop := ∀ b o, b ∉ ρ → h.get? b = some o → h'.get? b = some o

theorem Kp.refl (ρ : List Addr) (h : Heap) : Kp ρ h h := fun _ _ _ e => e
theorem Kp.trans {ρ ρ' : List Addr} {h h' h'' : Heap} {C : Cx} {σ' : H} (x : Kp ρ h h') (y : Kp ρ' h' h'') (hp : ρ <+: ρ') (hn : ∀ a ∈ ρ', a ∈ ρ ∨ h.get? a = none) : Kp ρ h h'' := fun b o hb e =>
  y b o (fun hm => by rcases hn b hm with q | q
                      · exact hb q
                      · rw [e] at q; cases q) (x b o hb e)

section
variable {C : Cx} {ρ ρ' : List Addr}
theorem pre_get {ρ ρ' : List Addr} (hp : ρ <+: ρ') {k : Nat} {a : Addr} (e : ρ[k]? = some a) : ρ'[k]? = some a := by
  obtain ⟨t, rfl⟩ := hp
  rw [List.getElem?_append_left (List.getElem?_eq_some_iff.mp e).1]; exact e
theorem VR.mono (hp : ρ <+: ρ') : ∀ {a : AV} {v : Value}, VR C ρ a v → VR C ρ' a v
  | .none, _, h => h
  | .bool _, _, h => h
  | .int _ _, _, h => h
  | .bit _, _, h => h
  | .chr _ _, _, h => h
  | .bytes _ _, _, h => h
  | .typ _, _, h => h
  | .bi _, _, h => h
  | .fn _, _, h => h
  | .set _, _, h => h
  | .scr, _, h => h
  | .obj _, _, ⟨a, e, q⟩ => ⟨a, pre_get hp e, q⟩
theorem VRs.mono (hp : ρ <+: ρ') : ∀ {as : List AV} {vs : List Value}, VRs C ρ as vs → VRs C ρ' as vs
  | [], _, h => h
  | _ :: _, _, ⟨u, us, e, h, t⟩ => ⟨u, us, e, h.mono hp, t.mono hp⟩
theorem OR.mono (hp : ρ <+: ρ') : ∀ {ao : AO} {o : Obj}, OR C ρ ao o → OR C ρ' ao o
  | .list _, _, ⟨vs, n, e, h⟩ => ⟨vs, n, e, h.mono hp⟩
  | .tup _, _, ⟨vs, n, e, h⟩ => ⟨vs, n, e, h.mono hp⟩
  | .ints _, _, h => h
theorem VRs.length : ∀ {as : List AV} {vs : List Value}, VRs C ρ as vs → as.length = vs.length
  | [], _, h => by cases h; rfl
  | _ :: _, _, ⟨_, _, e, _, t⟩ => by subst e; rw [List.length_cons, List.length_cons, t.length]
theorem VRs.get : ∀ {as : List AV} {vs : List Value}, VRs C ρ as vs → ∀ {j : Nat} {a : AV}, as[j]? = some a → ∃ v, vs[j]? = some v ∧ VR C ρ a v
  | [], _, _, j, a, e => by cases e
  | x :: xs, _, ⟨u, us, e', h, t⟩, 0, a, e => by subst e'; cases e; exact ⟨u, rfl, h⟩
  | x :: xs, _, ⟨u, us, e', h, t⟩, j + 1, a, e => by subst e'; exact t.get (j := j) (by simpa using e)
theorem VRs.append : ∀ {as bs : List AV} {vs us : List Value}, VRs C ρ as vs → VRs C ρ bs us → VRs C ρ (as ++ bs) (vs ++ us)
  | [], _, _, _, h, t => by cases h; exact t
  | _ :: _, _, _, _, ⟨u, us, e, h, t⟩, q => by subst e; exact ⟨u, _, rfl, h, t.append q⟩
theorem VRs.set : ∀ {as : List AV} {vs : List Value}, VRs C ρ as vs → ∀ {j : Nat} {a : AV} {v : Value}, VR C ρ a v → VRs C ρ (as.set j a) (vs.set j v)
  | [], _, h, j, a, v, _ => by cases h; exact rfl
  | x :: xs, _, ⟨u, us, e, h, t⟩, 0, a, v, q => by subst e; exact ⟨v, us, rfl, q, t⟩
  | x :: xs, _, ⟨u, us, e, h, t⟩, j + 1, a, v, q => by subst e; exact ⟨u, _, rfl, h, t.set q⟩
theorem VRs.take : ∀ {as : List AV} {vs : List Value}, VRs C ρ as vs → ∀ (n : Nat), VRs C ρ (as.take n) (vs.take n)
  | [], _, h, n => by cases h; rw [List.take_nil, List.take_nil]; exact rfl
  | x :: xs, _, _, 0 => rfl
  | x :: xs, _, ⟨u, us, e, h, t⟩, n + 1 => by subst e; exact ⟨u, _, rfl, h, t.take n⟩
theorem VRs.reverse {as : List AV} {vs : List Value} (h : VRs C ρ as vs) : VRs C ρ as.reverse vs.reverse := by
  induction as generalizing vs with
  | nil => cases h; exact rfl
  | cons a as ih =>
    obtain ⟨u, us, rfl, q, t⟩ := h
    rw [List.reverse_cons, List.reverse_cons]
    exact (ih t).append ⟨u, [], rfl, q, rfl⟩
theorem VRs.rep {as : List AV} {vs : List Value} (h : VRs C ρ as vs) : ∀ n, VRs C ρ (repL n as) (repL n vs)
  | 0 => rfl
  | n + 1 => h.append (h.rep n)
theorem RR.lt {σ : H} {h : Heap} (R : RR C ρ σ h) {a : Addr} (ha : a ∈ ρ) : a < h.objs.size := by
  obtain ⟨k, hk⟩ := List.getElem?_of_mem ha
  have hl := (List.getElem?_eq_some_iff.mp hk).1
  rw [R.len] at hl
  obtain ⟨o, ho, _⟩ := R.obj k a σ[k] hk (List.getElem?_eq_getElem hl)
  exact Heap.lt_size ho
theorem get_none_of_size (h : Heap) : h.get? h.objs.size = none := by
  cases e : h.get? h.objs.size with
  | none => rfl
  | some o => exact absurd (Heap.lt_size e) (Nat.lt_irrefl _)
theorem RR.fresh {σ : H} {h : Heap} (R : RR C ρ σ h) {a : Addr} (ha : h.objs.size ≤ a) : a ∉ ρ ∧ C.h₀.get? a = none := by
  refine ⟨fun hm => Nat.lt_irrefl _ (Nat.lt_of_lt_of_le (R.lt hm) ha), ?_⟩
  cases e : C.h₀.get? a with
  | none => rfl
  | some o => exact absurd (Heap.lt_size (R.base _ _ e)) (Nat.not_lt.mpr ha)
theorem RR.at {σ : H} {h : Heap} (R : RR C ρ σ h) {k : Nat} {ao : AO} (e : σ[k]? = some ao) : ∃ a o, ρ[k]? = some a ∧ h.get? a = some o ∧ OR C ρ ao o := by
  have hl := (List.getElem?_eq_some_iff.mp e).1
  rw [← R.len] at hl
  obtain ⟨o, ho, q⟩ := R.obj k ρ[k] ao (List.getElem?_eq_getElem hl) e
  exact ⟨ρ[k], o, List.getElem?_eq_getElem hl, ho, q⟩

/-- another heap that keeps the base and the objects of ρ -/
theorem RR.keep {σ : H} {h h' : Heap} (R : RR C ρ σ h) (hb : ∀ b o, (C.h₀.get? b ≠ none ∨ b ∈ ρ) → h.get? b = some o → h'.get? b = some o) : RR C ρ σ h' := by
  refine ⟨R.len, R.nd, fun b o e => hb b o (.inl (by rw [e]; exact fun q => by cases q)) (R.base b o e), R.new, fun k a ao e e' => ?_⟩
  obtain ⟨o, ho, q⟩ := R.obj k a ao e e'
  exact ⟨o, hb a o (.inr (List.mem_of_getElem? e)) ho, q⟩
theorem RR.keepAll {σ : H} {h h' : Heap} (R : RR C ρ σ h) (hb : ∀ b o, h.get? b = some o → h'.get? b = some o) : RR C ρ σ h' := R.keep fun b o _ => hb b o

theorem RR.alloc {σ : H} {h h' : Heap} (R : RR C ρ σ h) {a : Addr} {o : Obj} {ao : AO} (hk : ∀ b o, h.get? b = some o → h'.get? b = some o) (ha : h.objs.size ≤ a) (ho : h'.get? a = some o) (q : OR C (ρ ++ [a]) ao o) :
    RR C (ρ ++ [a]) (σ ++ [ao]) h' := by
  obtain ⟨f1, f2⟩ := R.fresh ha
  refine ⟨by rw [List.length_append, List.length_append, R.len]; rfl, ?_, fun b o e => hk b o (R.base b o e), fun b hb => ?_, fun k b ao' e e' => ?_⟩
  · rw [List.nodup_append]
    refine ⟨R.nd, List.nodup_cons.mpr ⟨fun hm => (nomatch hm), List.nodup_nil⟩, fun x hx y hy => ?_⟩
    rw [List.mem_singleton.mp hy]
    rintro rfl; exact f1 hx
  · rcases List.mem_append.mp hb with q | q
    · exact R.new b q
    · rw [List.mem_singleton.mp q]; exact f2
  · by_cases hl : k < ρ.length
    · rw [List.getElem?_append_left hl] at e
      rw [List.getElem?_append_left (R.len ▸ hl)] at e'
      obtain ⟨o', ho', q'⟩ := R.obj k b ao' e e'
      exact ⟨o', hk b o' ho', q'.mono (List.prefix_append ..)⟩
    · have hk' : k = ρ.length := by
        have := (List.getElem?_eq_some_iff.mp e).1
        rw [List.length_append, List.length_singleton] at this; omega
      subst hk'
      rw [List.getElem?_append_right (Nat.le_refl _), Nat.sub_self] at e
      rw [R.len, List.getElem?_append_right (Nat.le_refl _), Nat.sub_self] at e'
      cases e; cases e'
      exact ⟨o, ho, q⟩

/-- object k of ρ is turned -/
theorem RR.set {σ : H} {h h' : Heap} (R : RR C ρ σ h) {k : Nat} {a : Addr} {o : Obj} {ao : AO} (ea : ρ[k]? = some a) (hs : ∀ b, b ≠ a → h'.get? b = h.get? b) (ho : h'.get? a = some o) (q : OR C ρ ao o) :
    RR C ρ (σ.set k ao) h' := by
  have ham := List.mem_of_getElem? ea
  have ne : ∀ b o, C.h₀.get? b = some o → b ≠ a := fun b o e z => by subst z; rw [R.new b ham] at e; cases e
  refine ⟨by rw [List.length_set]; exact R.len, R.nd, fun b o e => by rw [hs b (ne b o e)]; exact R.base b o e, R.new, fun j b ao' e e' => ?_⟩
  by_cases hj : j = k
  · subst hj
    rw [ea] at e; cases e
    rw [List.getElem?_set_self (by have := (List.getElem?_eq_some_iff.mp ea).1; rw [R.len] at this; exact this)] at e'
    cases e'
    exact ⟨o, ho, q⟩
  · rw [List.getElem?_set_ne (Ne.symm hj)] at e'
    have hba : b ≠ a := by
      rintro rfl
      exact hj (by
        have h1 := (List.getElem?_eq_some_iff.mp e)
        have h2 := (List.getElem?_eq_some_iff.mp ea)
        obtain ⟨l1, g1⟩ := h1
        obtain ⟨l2, g2⟩ := h2
        exact (List.getElem_inj R.nd).mp (g1.trans g2.symm))
    obtain ⟨o', ho', q'⟩ := R.obj j b ao' e e'
    exact ⟨o', by rw [hs b hba]; exact ho', q'⟩
end
end Mine
set_option maxRecDepth 100000
open PySem PySem.W PyProof.Rows
namespace Mine

theorem lEq_iff : ∀ {a b : List Nat}, lEq a b = true ↔ a = b
  | [], [] => ⟨fun _ => rfl, fun _ => rfl⟩
  | [], _ :: _ => ⟨fun h => (nomatch h), fun h => (nomatch h)⟩
  | _ :: _, [] => ⟨fun h => (nomatch h), fun h => (nomatch h)⟩
  | a :: x, b :: y => by
    unfold lEq
    cases h : Nat.beq a b with
    | true =>
      obtain rfl := Nat.eq_of_beq_eq_true h
      show lEq x y = true ↔ _
      rw [lEq_iff, List.cons.injEq]
      exact ⟨fun q => ⟨rfl, q⟩, fun q => q.2⟩
    | false =>
      have : a ≠ b := Nat.ne_of_beq_eq_false h
      exact ⟨fun q => (nomatch q), fun q => absurd (List.cons.inj q).1 this⟩
theorem sEqB_iff {a b : Str} : sEqB a b = true ↔ a = b := by
  unfold sEqB
  rw [lEq_iff]
  constructor
  · intro h
    cases a; cases b
    simp only [Str.mk.injEq]
    exact Array.toList_inj.mp h
  · rintro rfl; rfl
theorem sEqB_beq (a b : Str) : (a == b) = sEqB a b := by
  cases h : sEqB a b with
  | true => rw [sEqB_iff.mp h]; exact beq_self_eq_true b
  | false =>
    apply beq_eq_false_iff_ne.mpr
    intro e
    rw [sEqB_iff.mpr e] at h; cases h
theorem slot_lookup {x : Str} : ∀ {l : List (Str × NameKind)} {n j : Nat} {k : NameKind}, slotGo x l n = some (j, k) → l.lookup x = some k ∧ n ≤ j
  | [], _, _, _, h => by cases h
  | (y, k') :: r, n, j, k, h => by
    unfold slotGo at h
    rw [List.lookup_cons, sEqB_beq]
    cases hb : sEqB x y with
    | true => rw [hb] at h; cases h; exact ⟨rfl, Nat.le_refl _⟩
    | false => rw [hb] at h; exact ⟨(slot_lookup h).1, Nat.le_of_succ_le (slot_lookup h).2⟩
theorem slot_inj {x y : Str} : ∀ {l : List (Str × NameKind)} {n j : Nat} {k k' : NameKind}, slotGo x l n = some (j, k) → slotGo y l n = some (j, k') → x = y
  | [], _, _, _, _, h, _ => by cases h
  | (z, kz) :: r, n, j, k, k', h, h' => by
    unfold slotGo at h h'
    cases hb : sEqB x z with
    | true =>
      rw [hb] at h; cases h
      cases hb' : sEqB y z with
      | true => rw [sEqB_iff.mp hb, sEqB_iff.mp hb']
      | false => rw [hb'] at h'; exact absurd (slot_lookup h').2 (Nat.not_succ_le_self _)
    | false =>
      rw [hb] at h
      cases hb' : sEqB y z with
      | true => rw [hb'] at h'; cases h'; exact absurd (slot_lookup h).2 (Nat.not_succ_le_self _)
      | false => rw [hb'] at h'; exact slot_inj h h'
theorem slot_lt {x : Str} : ∀ {l : List (Str × NameKind)} {n j : Nat} {k : NameKind}, slotGo x l n = some (j, k) → j < n + l.length
  | [], _, _, _, h => by cases h
  | (y, k') :: r, n, j, k, h => by
    unfold slotGo at h
    cases hb : sEqB x y with
    | true => rw [hb] at h; cases h; simp
    | false => rw [hb] at h; have := slot_lt h; rw [List.length_cons]; omega
theorem slot_mem {x : Str} : ∀ {l : List (Str × NameKind)} {n j : Nat} {k : NameKind}, slotGo x l n = some (j, k) → ∃ y, l[j - n]? = some (y, k) ∧ y = x ∧ n ≤ j
  | [], _, _, _, h => by cases h
  | (y, k') :: r, n, j, k, h => by
    unfold slotGo at h
    cases hb : sEqB x y with
    | true => rw [hb] at h; cases h; exact ⟨y, by simp, (sEqB_iff.mp hb).symm, Nat.le_refl _⟩
    | false =>
      rw [hb] at h
      obtain ⟨z, e, rfl, hle⟩ := slot_mem h
      refine ⟨z, ?_, rfl, Nat.le_of_succ_le hle⟩
      rw [show j - n = (j - (n + 1)) + 1 by omega]
      exact e

structure FR (C : Cx) (ρ : List Addr) (f : AF) (env : Env) (h : Heap) : Prop where
  kind : env.scope.kind = .function
  glob : env.globals = mainGlobals
  blt : env.builtins = builtinsNs
  kd : ∀ x i k, slot f.names x = some (i, k) → env.scope.names.lookup x = some k ∨ (k = .free ∧ env.scope.names.lookup x = some .cell)
  len : f.vals.length = f.names.length
  loc : ∃ m, h.Ns env.locals m ∧ ∀ x i v, slot f.names x = some (i, .local) → f.vals[i]? = some (some v) → ∃ u, m x = some u ∧ VR C ρ v u
  cel : ∀ x i k, slot f.names x = some (i, k) → (k = .cell ∨ k = .free) → ∃ c vo, env.cells.lookup x = some c ∧ h.IsCell c vo ∧ ∀ v, f.vals[i]? = some (some v) → ∃ u, vo = some u ∧ VR C ρ v u
  apart : ∀ x y c, env.cells.lookup x = some c → env.cells.lookup y = some c → x = y
  fresh : C.h₀.get? env.locals = none
  cfresh : ∀ x i c, slot f.names x = some (i, .cell) → env.cells.lookup x = some c → C.h₀.get? c = none

noncomputable def Own (f : AF) (env : Env) (b : Addr) : Prop := b = env.locals ∨ ∃ x i, slot f.names x = some (i, .cell) ∧ env.cells.lookup x = some b
/-- all but ρ, the frame's own and fp is kept -/
noncomputable def KpF (ρ : List Addr) (f : AF) (env : Env) (fp : List Addr) (h h' : Heap) : Prop := ∀ b o, b ∉ ρ → ¬ Own f env b → b ∉ fp → h.get? b = some o → h'.get? b = some o
theorem Kp.toF {ρ : List Addr} {f : AF} {env : Env} {fp : List Addr} {h h' : Heap} (x : Kp ρ h h') : KpF ρ f env fp h h' := fun b o hb _ _ e => x b o hb e

section
variable {C : Cx} {ρ ρ' : List Addr} {f : AF} {env : Env} {h h' : Heap} {σ : H}
theorem RR.not_mem (R : RR C ρ σ h) {a : Addr} {o : Obj} (e : h.get? a = some o) (hd : ∀ items n, o.data ≠ .seq items n) : a ∉ ρ := by
  intro hm
  obtain ⟨k, hk⟩ := List.getElem?_of_mem hm
  have hl := (List.getElem?_eq_some_iff.mp hk).1
  rw [R.len] at hl
  obtain ⟨o', ho', q⟩ := R.obj k a σ[k] hk (List.getElem?_eq_getElem hl)
  rw [e] at ho'; cases ho'
  rcases hx : σ[k] with xs | xs | l <;> (rw [hx] at q; obtain ⟨vs, n, e', _⟩ := q; subst e'; exact hd _ _ rfl)
theorem FR.loc_not (F : FR C ρ f env h) (R : RR C ρ σ h) : env.locals ∉ ρ := by
  obtain ⟨m, ⟨o, es, n, ho, hd, _⟩, _⟩ := F.loc
  exact R.not_mem ho fun _ _ e => by rw [hd] at e; cases e
theorem FR.cel_not {ρ₀ : List Addr} (F : FR C ρ₀ f env h) (R : RR C ρ σ h) {x : Str} {i : Nat} {k : NameKind} {c : Addr} (e : slot f.names x = some (i, k)) (hk : k = .cell ∨ k = .free) (hc : env.cells.lookup x = some c) : c ∉ ρ := by
  obtain ⟨c', vo, e', ⟨o, ho, hd⟩, _⟩ := F.cel x i k e hk
  rw [hc] at e'; cases e'
  exact R.not_mem ho fun _ _ e => by rw [hd] at e; cases e
theorem FR.own_not (F : FR C ρ f env h) (R : RR C ρ σ h) {b : Addr} (hb : Own f env b) : b ∉ ρ ∧ C.h₀.get? b = none := by
  rcases hb with rfl | ⟨x, i, e, hc⟩
  · exact ⟨F.loc_not R, F.fresh⟩
  · exact ⟨F.cel_not R e (.inl rfl) hc, F.cfresh x i b e hc⟩

/-- the frame stands on in a heap that keeps what it is made of -/
theorem FR.move (F : FR C ρ f env h) (hp : ρ <+: ρ') (hL : ∀ o, h.get? env.locals = some o → h'.get? env.locals = some o)
    (hC : ∀ x i k c, slot f.names x = some (i, k) → (k = .cell ∨ k = .free) → env.cells.lookup x = some c → ∀ o, h.get? c = some o → h'.get? c = some o) : FR C ρ' f env h' := by
  obtain ⟨m, hn, hm⟩ := F.loc
  refine ⟨F.kind, F.glob, F.blt, F.kd, F.len, ⟨m, hn.at' hL, fun x i v e e' => let ⟨u, a, b⟩ := hm x i v e e'; ⟨u, a, b.mono hp⟩⟩, fun x i k e hk => ?_, F.apart, F.fresh, F.cfresh⟩
  obtain ⟨c, vo, e', ⟨o, ho, hd⟩, hv⟩ := F.cel x i k e hk
  exact ⟨c, vo, e', ⟨o, hC x i k c e hk e' o ho, hd⟩, fun v q => let ⟨u, a, b⟩ := hv v q; ⟨u, a, b.mono hp⟩⟩
theorem FR.keep (F : FR C ρ f env h) (R : RR C ρ σ h) (hp : ρ <+: ρ') (K : Kp ρ h h') : FR C ρ' f env h' :=
  F.move hp (fun o e => K _ o (F.loc_not R) e) fun x i k c e hk hc o ho => K c o (F.cel_not R e hk hc) ho

theorem setVar_names {x : Str} {v : AV} {f' : AF} (e : setVar f x v = some f') : f'.names = f.names := by
  unfold setVar at e
  split at e
  · split at e <;> first | (cases e; rfl) | cases e
  · first | exact none_ne e | cases e
theorem own_congr {f' : AF} (e : f'.names = f.names) (b : Addr) : Own f' env b ↔ Own f env b := by unfold Own; rw [e]
end
end Mine

namespace Mine
/-- the facts of the base heap -/
structure SF (C : Cx) : Prop where
  glob : ∃ mg mb, C.h₀.Ns mainGlobals mg ∧ C.h₀.Ns builtinsNs mb ∧ ∀ x v, look globs x = some v → ∃ u, VR C [] v u ∧ (mg x = some u ∨ (mg x = none ∧ mb x = some u))
  nolimit : C.h₀.NoLimit
  fns : ∀ i, i < 23 → ∃ fn o pm cd doc, fnOf i = some fn ∧ C.h₀.get? (C.fa i) = some o ∧ o.data = .func (Calls.docDef fn.name fn.params fn.body fn.scope pm cd doc) ∧ C.h₀.CodeRec cd fn.name
  sets : ∀ k, k < 5 → ∃ n, C.h₀.SetOf (intKind PySem.Challenge.pw_yf0003_01 C.w) (C.sa k) (fun i => anyEq i (setElems k)) n
  scr : ∃ vs n, C.h₀.get? C.ℓ = some (listO vs.toArray n) ∧ IntsAre vs C.ns ∧ C.ns.length ≤ 63

noncomputable abbrev pw : Program := PySem.Challenge.pw_yf0003_01
/-- the tree t, from the state of heap h, ends in Q and never raises -/
noncomputable abbrev WP {α : Type} (C : Cx) (A : Around) (t : Sem α) (Q : α → Shared → Prop) (h : Heap) (tk : Nat) : Prop := wpAny (model pw C.w) A t Q (fun _ _ => False) (C.st h tk)

structure AOk (n : Nat) (A : Around) : Prop where
  handled : A.handled = none
  depth : A.depth + n < 990
  units : A.units + 8 * n < 9800
theorem AOk.less {n m : Nat} {A : Around} (h : AOk n A) (hm : m ≤ n) : AOk m A := ⟨h.handled, by have := h.depth; omega, by have := h.units; omega⟩

section
variable {C : Cx} {ρ ρ' : List Addr} {f f' : AF} {env : Env} {h h' : Heap} {σ : H} {A : Around} {tk : Nat}

theorem kindOf_of {x : Str} {k : NameKind} (e : env.scope.names.lookup x = some k) : env.kindOf x = some k := e

theorem snd_getVar (S : SF C) (R : RR C ρ σ h) (F : FR C ρ f env h) {x : Str} {pos : Pos} {v : AV} (e : getVar f x = some v) {Q : Value → Shared → Prop} (hQ : ∀ u, VR C ρ v u → Q u (C.st h tk)) :
    WP C A (eval (.Name x pos) env) Q h tk := by
  unfold getVar at e
  cases hd : sEqB x dbgS with
  | true => rw [hd] at e; cases e
  | false =>
    rw [hd] at e
    have hd' : (x == ("__debug__" : Str)) = false := by rw [sEqB_beq]; exact hd
    cases hs : slot f.names x with
    | none => rw [hs] at e; cases e
    | some p =>
      obtain ⟨i, k⟩ := p
      rw [hs] at e
      have hk := F.kd x i k hs
      cases k with
      | «local» =>
        simp only at e
        split at e
        · rename_i v' hv
          obtain rfl := some_inj e
          obtain ⟨m, hn, hm⟩ := F.loc
          obtain ⟨u, hu, q⟩ := hm x i _ hs hv
          have hl : env.scope.names.lookup x = some .local := by rcases hk with hk | ⟨hk, _⟩; exact hk; cases hk
          exact wpAny_Name (wpAny_loadName_local F.kind (kindOf_of hl) hn hu (hQ u q)) hd'
        · first | exact none_ne e | cases e
      | cell =>
        simp only at e
        split at e
        · rename_i v' hv
          obtain rfl := some_inj e
          obtain ⟨c, vo, hc, hcell, q⟩ := F.cel x i .cell hs (.inl rfl)
          obtain ⟨u, rfl, qq⟩ := q _ hv
          have hl : env.scope.names.lookup x = some .cell := by rcases hk with hk | ⟨hk, _⟩; exact hk; cases hk
          exact wpAny_Name (wpAny_loadName_cell F.kind (kindOf_of hl) hc hcell (hQ u qq)) hd'
        · first | exact none_ne e | cases e
      | free =>
        simp only at e
        cases hcl : sEqB x cldS with
        | true => rw [hcl] at e; cases e
        | false =>
          rw [hcl] at e
          have hcl' : (x == ("__classdict__" : Str)) = false := by rw [sEqB_beq]; exact hcl
          split at e
          · first | exact none_ne e | cases e
          · split at e
            · rename_i v' hv
              obtain rfl := some_inj e
              obtain ⟨c, vo, hc, hcell, q⟩ := F.cel x i .free hs (.inr rfl)
              obtain ⟨u, rfl, qq⟩ := q _ hv
              rcases hk with hl | ⟨_, hl⟩
              · exact wpAny_Name (wpAny_loadName_free F.kind (kindOf_of hl) hc hcell (hQ u qq) hcl') hd'
              · exact wpAny_Name (wpAny_loadName_cell F.kind (kindOf_of hl) hc hcell (hQ u qq)) hd'
            · first | exact none_ne e | cases e
      | globalImplicit =>
        simp only at e
        obtain ⟨mg, mb, hg, hb, hall⟩ := S.glob
        obtain ⟨u, q, hu⟩ := hall x v e
        have hl : env.scope.names.lookup x = some .globalImplicit := by rcases hk with hk | ⟨hk, _⟩; exact hk; cases hk
        have q' := hQ u (q.mono ⟨ρ, rfl⟩)
        refine Calls.Name_function_global F.kind (kindOf_of hl) ?_ hd'
        have hg' : h.Ns env.globals mg := F.glob ▸ hg.keeps R.base
        rcases hu with hu | ⟨hn, hu⟩
        · exact Calls.loadGlobal_global (env := env) hg' hu q'
        · exact Calls.loadGlobal_builtin (env := env) hg' hn (F.blt ▸ hb.keeps R.base) hu q'
      | _ => simp only at e; cases e
end
end Mine
set_option maxRecDepth 100000
open PySem PySem.W PyProof.Rows
namespace Mine

/-- from h to h' the world only grows, and all is kept but ρ's objects and those of P -/
structure Kx (P : Addr → Prop) (ρ ρ' : List Addr) (h h' : Heap) : Prop where
  pre : ρ <+: ρ'
  new : ∀ a ∈ ρ', a ∈ ρ ∨ h.get? a = none ∨ P a
  life : ∀ b o, ¬ P b → h.get? b = some o → ∃ o', h'.get? b = some o'
  keep : ∀ b o, b ∉ ρ → ¬ P b → h.get? b = some o → h'.get? b = some o
noncomputable abbrev NoP : Addr → Prop := fun _ => False
noncomputable abbrev Own' (f : AF) (env : Env) (fp : List Addr) : Addr → Prop := fun b => Own f env b ∨ b ∈ fp
theorem Kx.refl (P : Addr → Prop) (ρ : List Addr) (h : Heap) : Kx P ρ ρ h h := ⟨List.prefix_refl _, fun _ q => .inl q, fun _ o _ e => ⟨o, e⟩, fun _ _ _ _ e => e⟩
theorem Kx.trans {P : Addr → Prop} {ρ ρ' ρ'' : List Addr} {h h' h'' : Heap} (x : Kx P ρ ρ' h h') (y : Kx P ρ' ρ'' h' h'') : Kx P ρ ρ'' h h'' := by
  refine ⟨x.pre.trans y.pre, fun a ha => ?_, fun b o hP e => let ⟨o', e'⟩ := x.life b o hP e; y.life b o' hP e', fun b o hb hP e => y.keep b o (fun hm => ?_) hP (x.keep b o hb hP e)⟩
  · rcases y.new a ha with q | q | q
    · exact x.new a q
    · by_cases hP : P a
      · exact .inr (.inr hP)
      · right; left
        cases e : h.get? a with
        | none => rfl
        | some o => obtain ⟨o', e'⟩ := x.life a o hP e; rw [q] at e'; cases e'
    · exact .inr (.inr q)
  · rcases x.new b hm with q | q | q
    · exact hb q
    · rw [e] at q; cases q
    · exact hP q
theorem Kx.mono {P P' : Addr → Prop} {ρ ρ' : List Addr} {h h' : Heap} (x : Kx P ρ ρ' h h') (hP : ∀ b, P b → P' b) : Kx P' ρ ρ' h h' :=
  ⟨x.pre, fun a ha => (x.new a ha).imp id (.imp id (hP a)), fun b o hn e => x.life b o (fun q => hn (hP b q)) e, fun b o hb hn e => x.keep b o hb (fun q => hn (hP b q)) e⟩
/-- what was not there before may be forgotten -/
theorem Kx.drop {P P' : Addr → Prop} {ρ ρ' : List Addr} {h h' : Heap} (x : Kx P ρ ρ' h h') (hP : ∀ b, P b → P' b ∨ h.get? b = none) : Kx P' ρ ρ' h h' := by
  have go : ∀ b o, h.get? b = some o → ¬ P' b → ¬ P b := fun b o e hn q => by
    rcases hP b q with q | q
    · exact hn q
    · rw [e] at q; cases q
  refine ⟨x.pre, fun a ha => ?_, fun b o hn e => x.life b o (go b o e hn) e, fun b o hb hn e => x.keep b o hb (go b o e hn) e⟩
  rcases x.new a ha with q | q | q
  · exact .inl q
  · exact .inr (.inl q)
  · rcases hP a q with q | q
    · exact .inr (.inr q)
    · exact .inr (.inl q)
theorem Kx.no {P : Addr → Prop} {ρ ρ' : List Addr} {h h' : Heap} (x : Kx NoP ρ ρ' h h') : Kx P ρ ρ' h h' := x.mono fun _ q => q.elim
/-- all is kept -/
theorem Kx.all {P : Addr → Prop} (ρ : List Addr) {h h' : Heap} (hk : ∀ b o, h.get? b = some o → h'.get? b = some o) : Kx P ρ ρ h h' := ⟨List.prefix_refl _, fun _ q => .inl q, fun b o _ e => ⟨o, hk b o e⟩, fun b o _ _ e => hk b o e⟩
theorem Kx.kp {ρ ρ' : List Addr} {h h' : Heap} (x : Kx NoP ρ ρ' h h') : Kp ρ h h' := fun b o hb e => x.keep b o hb (fun q => q) e
theorem Kx.alloc {P : Addr → Prop} {ρ : List Addr} {h h' : Heap} {a : Addr} (hk : ∀ b o, h.get? b = some o → h'.get? b = some o) (ha : h.get? a = none) : Kx P ρ (ρ ++ [a]) h h' :=
  ⟨List.prefix_append .., fun b hb => by
    rcases List.mem_append.mp hb with q | q
    · exact .inl q
    · rw [List.mem_singleton.mp q]; exact .inr (.inl ha), fun b o _ e => ⟨o, hk b o e⟩, fun b o _ _ e => hk b o e⟩

noncomputable def FlR (C : Cx) (ρ : List Addr) : Fl → Flow → Prop
  | .next, w => w = .next
  | .brk, w => w = .brk
  | .cont, w => w = .cont
  | .ret v, w => ∃ u, w = .ret u ∧ VR C ρ v u

/-- the iterator I of a source, before its turn i; fp are its own objects -/
noncomputable def ItR (C : Cx) (ρ : List Addr) (src : Src) (i : Nat) (I : Addr) (fp : List Addr) (h : Heap) : Prop :=
  (∀ b ∈ fp, C.h₀.get? b = none) ∧ match src with
  | .rng a n => fp = [I] ∧ IsRangeIter h I (a + i) ((n : Int) - i) 1 ∧ i ≤ n
  | .lst k => fp = [I] ∧ ∃ l, ρ[k]? = some l ∧ h.IsListIter I l i
  | .enu k => ∃ l it old, fp = [I, it] ∧ ρ[k]? = some l ∧ IsEnum h I it i old ∧ h.IsListIter it l i ∧ I ≠ it
  | .byt l => fp = [I] ∧ ∃ t, KBw.IsBytesIter h I l.toArray t i

section
variable (C : Cx)
noncomputable abbrev PV (ρ : List Addr) (σ' : H) (h : Heap) (v : AV) (Q : Value → Shared → Prop) : Prop :=
  ∀ ρ' h' tk' u, Kx NoP ρ ρ' h h' → RR C ρ' σ' h' → VR C ρ' v u → Q u (C.st h' tk')
noncomputable abbrev PB (ρ : List Addr) (σ' : H) (h : Heap) (b : Bool) (Q : Bool → Shared → Prop) : Prop :=
  ∀ ρ' h' tk', Kx NoP ρ ρ' h h' → RR C ρ' σ' h' → Q b (C.st h' tk')
noncomputable abbrev PF (ρ : List Addr) (σ' : H) (h : Heap) (f f' : AF) (env : Env) (fp : List Addr) (Q : Shared → Prop) : Prop :=
  ∀ ρ' h' tk', Kx (Own' f env fp) ρ ρ' h h' → RR C ρ' σ' h' → FR C ρ' f' env h' → Q (C.st h' tk')
noncomputable abbrev PS (ρ : List Addr) (σ' : H) (h : Heap) (f f' : AF) (w : Fl) (env : Env) (fp : List Addr) (Q : Flow → Shared → Prop) : Prop :=
  ∀ ρ' h' tk' fl, Kx (Own' f env fp) ρ ρ' h h' → RR C ρ' σ' h' → FR C ρ' f' env h' → FlR C ρ' w fl → Q fl (C.st h' tk')

noncomputable abbrev noRaise (R : Flow → Shared → Prop) : Result → Shared → Prop := fun r s => match r with
  | .ok f => R f s
  | .error _ => False

noncomputable def Mean (n : Nat) (q : Req) (σ : H) (r : Res) (σ' : H) : Prop := match q with
  | .e f x => match r with
    | .v v => ∀ env A ρ h tk Q, AOk n A → RR C ρ σ h → FR C ρ f env h → PV C ρ σ' h v Q → WP C A (eval x env) Q h tk
    | _ => True
  | .es f xs => match r with
    | .vs vs => (∀ x ∈ xs, isStarredB x = false) ∧ ∀ env A ρ h tk (Q : List Value → Shared → Prop) pos, AOk n A → RR C ρ σ h → FR C ρ f env h →
        (∀ ρ' h' tk' us, Kx NoP ρ ρ' h h' → RR C ρ' σ' h' → VRs C ρ' vs us → Q us (C.st h' tk')) → WP C A (spliced (backTo pos (starEach xs env))) Q h tk
    | _ => True
  | .t f x => match r with
    | .b b => ∀ env A ρ h tk Q, AOk n A → RR C ρ σ h → FR C ρ f env h → PB C ρ σ' h b Q → WP C A (isTrue x env (eval x env)) Q h tk
    | _ => True
  | .ts f op xs => match r with
    | .b b => ∀ env A ρ h tk Q, AOk n A → RR C ρ σ h → FR C ρ f env h → PB C ρ σ' h b Q → WP C A (allTrue op xs env) Q h tk
    | _ => True
  | .ch f l ops xs => match r with
    | .v v => ∀ env A ρ h tk Q pos lv, AOk n A → RR C ρ σ h → FR C ρ f env h → VR C ρ l lv → PV C ρ σ' h v Q → WP C A (compareChain pos lv ops (markedEach ops xs (evalEach xs env))) Q h tk
    | _ => True
  | .tch f l ops xs => match r with
    | .b b => ∀ env A ρ h tk Q pos lv, AOk n A → RR C ρ σ h → FR C ρ f env h → VR C ρ l lv → PB C ρ σ' h b Q → WP C A (testChain pos lv ops (markedEach ops xs (evalEach xs env))) Q h tk
    | _ => True
  | .as f t v => match r with
    | .f f' => f'.names = f.names ∧ ∀ env A ρ h tk (Q : Unit → Shared → Prop) u, AOk n A → RR C ρ σ h → FR C ρ f env h → VR C ρ v u → PF C ρ σ' h f f' env [] (Q ()) → WP C A (assign t env u) Q h tk
    | _ => True
  | .asp f t i v => match r with
    | .f f' => f'.names = f.names ∧ (∃ elts k pos, t = .Tuple elts k pos) ∧ ∀ env A ρ h tk (Q : Unit → Shared → Prop) a u tkn m, AOk n A → RR C ρ σ h → FR C ρ f env h → VR C ρ v u → h.get? a = some (tupO #[.int (i : Int) tkn, u] m) →
        PF C ρ σ' h f f' env [] (Q ()) → WP C A (assign t env (.ref a)) Q h tk
    | _ => True
  | .asn f ts vs => match r with
    | .f f' => f'.names = f.names ∧ vs.length = ts.length ∧ (∀ x ∈ ts, isStarredB x = false) ∧ ∀ env A ρ h tk (Q : Unit → Shared → Prop) us, AOk n A → RR C ρ σ h → FR C ρ f env h → VRs C ρ vs us →
        PF C ρ σ' h f f' env [] (Q ()) → WP C A (assignInOrder ((assignEach ts env).map (·.2)) us) Q h tk
    | _ => True
  | .s f st => match r with
    | .fl f' w => f'.names = f.names ∧ ∀ env A ρ h tk Q, AOk n A → RR C ρ σ h → FR C ρ f env h → PS C ρ σ' h f f' w env [] Q → WP C A (exec st env) Q h tk
    | _ => True
  | .ss f sts => match r with
    | .fl f' w => f'.names = f.names ∧ ∀ env A ρ h tk Q, AOk n A → RR C ρ σ h → FR C ρ f env h → PS C ρ σ' h f f' w env [] Q → WP C A (execs sts env) Q h tk
    | _ => True
  | .it f x => match r with
    | .src s => (∀ env xv, foldedSetIterable x env xv = pure xv) ∧ ∀ env A ρ h tk (Q : Value → Shared → Prop), AOk n A → RR C ρ σ h → FR C ρ f env h →
        (∀ ρ' h' tk' I fp, Kx NoP ρ ρ' h h' → RR C ρ' σ' h' → ItR C ρ' s 0 I fp h' → (∀ b ∈ fp, h.get? b = none) → Q (.ref I) (C.st h' tk')) →
        WP C A (eval x env) (fun xv s₁ => wpAny (model pw C.w) A (pyIter xv) Q (fun _ _ => False) s₁) h tk
    | _ => True
  | .fo f tgt src i body => match r with
    | .fl f' w => f'.names = f.names ∧ ∀ env A ρ h tk R I fp, AOk n A → RR C ρ σ h → FR C ρ f env h → ItR C ρ src i I fp h → PS C ρ σ' h f f' w env fp R →
        codeAny (model pw C.w) A (.forLoop tgt (.ref I) body [] env) (noRaise R) (C.st h tk)
    | _ => True
  | .wh f t body => match r with
    | .fl f' w => f'.names = f.names ∧ ∀ env A ρ h tk R, AOk n A → RR C ρ σ h → FR C ρ f env h → PS C ρ σ' h f f' w env [] R →
        codeAny (model pw C.w) A (.whileLoop t body [] env) (noRaise R) (C.st h tk)
    | _ => True
  | .ifs f xs => match r with
    | .b b => ∀ env A ρ h tk Q, AOk n A → RR C ρ σ h → FR C ρ f env h → PB C ρ σ' h b Q →
        WP C A (forIn xs true fun c r => if r = true then do let ok ← isTrue c env (eval c env); pure (ForInStep.yield ok) else pure (ForInStep.yield r)) Q h tk
    | _ => True
  | .co f elt gens src i acc => match r with
    | .f f' => f'.names = f.names ∧ ∀ env A ρ h tk R I fp all d sc pos accA, AOk n A → all.drop d = gens → RR C ρ σ h → FR C ρ f env h → ItR C ρ src i I fp h → ρ[acc]? = some accA → PF C ρ σ' h f f' env fp (R .next) →
        codeAny (model pw C.w) A (.compLoop (.ListComp elt all sc pos) d (.ref I) (.ref accA) env) (noRaise R) (C.st h tk)
    | _ => True
  | .ca i args => match r with
    | .v v => ∀ A ρ h tk Q us, AOk n A → RR C ρ σ h → VRs C ρ args us → PV C ρ σ' h v Q → WP C A (call (.ref (C.fa i)) us) Q h tk
    | _ => True

noncomputable def Snd (n : Nat) (g : EvT) : Prop := ∀ q σ r σ', g q σ = some (r, σ') → Mean C n q σ r σ'
/-- what an oracle must keep -/
noncomputable def OSnd (orc : Orc) (N : Nat) : Prop := ∀ n i args σ v σ', orc i args σ = some (v, σ') → N ≤ n → Mean C n (.ca i args) σ (.v v) σ'
end

end Mine
set_option maxRecDepth 100000
open PySem PySem.W PyProof.Rows
namespace Mine
section
variable {C : Cx} {ρ : List Addr} {σ σ' : H} {h : Heap} {tk : Nat} {A : Around}

theorem PV.here {v : AV} {Q : Value → Shared → Prop} (hQ : PV C ρ σ h v Q) (R : RR C ρ σ h) {u : Value} {tk' : Nat} (q : VR C ρ v u) : Q u (C.st h tk') :=
  hQ ρ h tk' u (Kx.refl _ _ _) R q
theorem PB.here {b : Bool} {Q : Bool → Shared → Prop} (hQ : PB C ρ σ h b Q) (R : RR C ρ σ h) {tk' : Nat} : Q b (C.st h tk') :=
  hQ ρ h tk' (Kx.refl _ _ _) R
/-- a new object -/
theorem PV.made {ao : AO} {Q : Value → Shared → Prop} (hQ : PV C ρ (σ ++ [ao]) h (.obj σ.length) Q) (R : RR C ρ σ h) {h' : Heap} {a : Addr} {o : Obj} {tk' : Nat}
    (hk : ∀ b o, h.get? b = some o → h'.get? b = some o) (ha : h.objs.size ≤ a) (ho : h'.get? a = some o) (q : OR C (ρ ++ [a]) ao o) : Q (.ref a) (C.st h' tk') := by
  have hn : h.get? a = none := by
    cases e : h.get? a with
    | none => rfl
    | some o => exact absurd (Heap.lt_size e) (Nat.not_lt.mpr ha)
  refine hQ (ρ ++ [a]) h' tk' _ (Kx.alloc hk hn) (R.alloc hk ha ho q) ⟨a, ?_, rfl⟩
  rw [← R.len, List.getElem?_append_right (Nat.le_refl _), Nat.sub_self]
  rfl
theorem OR.up {a : Addr} {ao : AO} {o : Obj} (q : OR C ρ ao o) : OR C (ρ ++ [a]) ao o := q.mono (List.prefix_append _ _)

theorem ival_VR {a : AV} {u : Value} {i : Int} (e : ival a = some i) (q : VR C ρ a u) : ∃ t, u = .int i t := by
  cases a with
  | int j kn => cases e; exact q.1
  | bit b => cases e; exact q
  | _ => first | exact none_ne e | cases e
theorem VR.any {i : Int} {t : Tok} : VR C ρ (.int i .any) (.int i t) := ⟨⟨t, rfl⟩, trivial⟩
theorem VR.bitOf {b : Bool} {i : Int} {t : Tok} (e : i = bI b) : VR C ρ (.bit b) (.int i t) := ⟨t, by rw [e]⟩

theorem listAt_iff {k : Nat} {xs : List AV} (e : listAt σ k = some xs) : σ[k]? = some (.list xs) := by
  unfold listAt at e
  split at e
  · rename_i xs' h'; cases e; exact h'
  · first | exact none_ne e | cases e
theorem itemsAt_iff {k : Nat} {xs : List AV} (e : itemsAt σ k = some xs) : σ[k]? = some (.list xs) ∨ σ[k]? = some (.tup xs) := by
  unfold itemsAt at e
  split at e
  · rename_i xs' h'; cases e; exact .inl h'
  · rename_i xs' h'; cases e; exact .inr h'
  · first | exact none_ne e | cases e
theorem small_iff {i : Int} (e : small i = true) : i.natAbs < 2 ^ 64 := by
  unfold small at e
  have := Nat.blt_eq.mp e
  omega

theorem bI_bits (b : Bool) : Builtin.Int.intBits (bI b) ≤ 64 := by cases b <;> decide +kernel

theorem fmod_two (i : Int) : Int.fmod i 2 = bI (Int.fmod i 2 == 1) := by
  have h1 : Int.fmod i 2 = i % 2 := Int.fmod_eq_emod_of_nonneg i (by decide)
  rw [h1]
  have h2 : i % 2 = 0 ∨ i % 2 = 1 := by omega
  rcases h2 with h | h <;> rw [h] <;> rfl

theorem knOk_lt {i : Int} {k : Nat} (q : knOk i (.lt k)) : 0 ≤ i ∧ i < k := q

section
variable {Q : Value → Shared → Prop} {u w : Value}

theorem snd_addI {a b : AV} {v : AV} (e : addV a b σ = some (v, σ')) (ha : ∃ i, ival a = some i) (qa : VR C ρ a u) (qb : VR C ρ b w) (R : RR C ρ σ h) (hQ : PV C ρ σ' h v Q) : WP C A (binaryOp .Add u w) Q h tk := by
  obtain ⟨i, hi⟩ := ha
  obtain ⟨t, rfl⟩ := ival_VR hi qa
  cases a with
  | int i' kn =>
    cases hi
    obtain ⟨_, hk⟩ := qa
    have plain : (match ival b with
        | some j => some (AV.int (i + j) .any, σ)
        | none => none) = some (v, σ') → WP C A (binaryOp .Add (.int i t) w) Q h tk := by
      intro e
      split at e
      · rename_i j hj
        obtain ⟨rfl, rfl⟩ := some_pair e
        obtain ⟨t', rfl⟩ := ival_VR hj qb
        exact P.add_int (hQ.here R VR.any)
      · first | exact none_ne e | cases e
    cases kn with
    | any => exact plain e
    | itv l h => exact plain e
    | tab j b => exact plain e
    | lt k =>
      simp only [addV] at e
      split at e
      · obtain ⟨⟨t', rfl⟩, _⟩ := qb
        split at e
        · obtain ⟨rfl, rfl⟩ := some_pair e
          rename_i n _
          refine P.add_int (hQ.here R ⟨⟨_, rfl⟩, ?_⟩)
          obtain ⟨h0, h1⟩ := knOk_lt hk
          refine ⟨?_, ?_⟩
          · show 0 ≤ i + (n : Int); omega
          · show i + (n : Int) < ((k + n : Nat) : Int); omega
        · obtain ⟨rfl, rfl⟩ := some_pair e
          exact P.add_int (hQ.here R VR.any)
      · obtain ⟨rfl, rfl⟩ := some_pair e
        obtain ⟨t', rfl⟩ := qb
        exact P.add_int (hQ.here R VR.any)
      · first | exact none_ne e | cases e
    | res m r =>
      simp only [addV] at e
      split at e
      · obtain ⟨⟨t', rfl⟩, _⟩ := qb
        split at e
        · obtain ⟨rfl, rfl⟩ := some_pair e
          rename_i n _
          refine P.add_int (hQ.here R ⟨⟨_, rfl⟩, ?_⟩)
          obtain ⟨q, hq⟩ := hk
          refine ⟨q + ((r + n) / m : Nat), ?_⟩
          have hd : (m : Int) * (((r + n) / m : Nat) : Int) + (((r + n) % m : Nat) : Int) = ((r + n : Nat) : Int) := by
            rw [← Int.natCast_mul, ← Int.natCast_add, Nat.div_add_mod]
          rw [Int.mul_add]
          show i + (n : Int) = _
          omega
        · obtain ⟨rfl, rfl⟩ := some_pair e
          exact P.add_int (hQ.here R VR.any)
      · first | exact none_ne e | cases e
  | bit c =>
    cases hi
    simp only [addV] at e
    split at e
    · rename_i j hj
      obtain ⟨rfl, rfl⟩ := some_pair e
      obtain ⟨t', rfl⟩ := ival_VR hj qb
      exact P.add_int (hQ.here R VR.any)
    · first | exact none_ne e | cases e
  | _ => cases hi

theorem snd_subP {a b : AV} {v : AV} (e : subV a b σ = some (v, σ')) (qa : VR C ρ a u) (qb : VR C ρ b w) (R : RR C ρ σ h) (hQ : PV C ρ σ' h v Q) : WP C A (binaryOp .Sub u w) Q h tk := by
  unfold subV at e
  split at e
  · rename_i i hi
    split at e
    · rename_i j hj
      obtain ⟨t, rfl⟩ := ival_VR hi qa
      obtain ⟨t', rfl⟩ := ival_VR hj qb
      split at e
      · rename_i l hh hk
        obtain ⟨rfl, rfl⟩ := some_pair e
        cases a with
        | int i' kn =>
          cases hi
          simp only [knOf] at hk
          subst hk
          obtain ⟨_, h1, h2⟩ := qa
          exact P.sub_int (hQ.here R ⟨⟨_, rfl⟩, by show l - j ≤ i - j; omega, by show i - j ≤ hh - j; omega⟩)
        | _ => cases hk
      · obtain ⟨rfl, rfl⟩ := some_pair e
        exact P.sub_int (hQ.here R VR.any)
    · first | exact none_ne e | cases e
  · first | exact none_ne e | cases e
theorem snd_subI {l : Bool} {a b : AV} {v : AV} (e : binV .Sub l a b σ = some (v, σ')) (qa : VR C ρ a u) (qb : VR C ρ b w) (R : RR C ρ σ h) (hQ : PV C ρ σ' h v Q) : WP C A (binaryOp .Sub u w) Q h tk := by
  cases l with
  | false => exact snd_subP e qa qb R hQ
  | true =>
    simp only [binV] at e
    split at e
    · rename_i c
      split at e
      · split at e
        · split at e
          · obtain ⟨rfl, rfl⟩ := some_pair e
            rename_i n hn
            obtain ⟨⟨t, rfl⟩, _⟩ := qa
            obtain ⟨t', rfl⟩ := qb
            have hn' := Nat.eq_of_beq_eq_true hn
            subst hn'
            exact P.sub_int (hQ.here R (VR.bitOf (by cases c <;> rfl)))
          · first | exact none_ne e | cases e
        · first | exact none_ne e | cases e
      · first | exact none_ne e | cases e
    · exact snd_subP e qa qb R hQ

theorem snd_intOp {op : Operator} {i : Int} {a b : AV} {v : AV} (hi : ival a = some i) (e : intOp op i a b = some v) (qa : VR C ρ a u) (qb : VR C ρ b w) (R : RR C ρ σ h) (hQ : PV C ρ σ h v Q) : WP C A (binaryOp op u w) Q h tk := by
  obtain ⟨t, rfl⟩ := ival_VR hi qa
  cases b with
  | int j kj =>
    obtain ⟨⟨t', rfl⟩, hkj⟩ := qb
    cases op with
    | FloorDiv =>
      cases j with
      | negSucc _ => first | exact none_ne e | cases e
      | ofNat n =>
        cases n with
        | zero => first | exact none_ne e | cases e
        | succ n =>
          simp only [intOp] at e
          cases hs : Nat.blt (n + 1) 1073741824 with
          | false => rw [hs] at e; cases e
          | true =>
            rw [hs] at e; cases e
            have hs' : n + 1 < 1073741824 := Nat.blt_eq.mp hs
            refine floordiv_int (by show ((n + 1 : Nat) : Int) ≠ 0; omega) (hQ.here R VR.any) (.inl (PyProof.noPylong_small ?_))
            exact hs'
    | Mod =>
      cases j with
      | negSucc _ => first | exact none_ne e | cases e
      | ofNat n =>
        simp only [intOp] at e
        cases hn : Nat.beq n 2 with
        | true =>
          rw [hn] at e
          have hn' := Nat.eq_of_beq_eq_true hn
          subst hn'
          obtain rfl := some_inj e
          exact mod_int' (by decide) (hQ.here R (VR.bitOf (fmod_two i)))
        | false =>
          rw [hn] at e
          cases n with
          | zero => first | exact none_ne e | cases e
          | succ m =>
            have hm : ((m + 1 : Nat) : Int) ≠ 0 := by omega
            have hlt : v = .int (Int.fmod i (Int.ofNat (m + 1))) (.lt (m + 1)) → WP C A (binaryOp .Mod (.int i t) (.int (Int.ofNat (m + 1)) t')) Q h tk := by
              rintro rfl
              refine mod_int' hm (hQ.here R ⟨⟨_, rfl⟩, Int.fmod_nonneg_of_pos _ (by show (0 : Int) < ((m + 1 : Nat) : Int); omega), Int.fmod_lt_of_pos _ (by show (0 : Int) < ((m + 1 : Nat) : Int); omega)⟩)
            simp only at e
            split at e
            · rename_i d r
              split at e
              · rename_i hd
                have hd' := Nat.eq_of_beq_eq_true hd
                subst hd'
                obtain rfl := some_inj e
                cases hi
                obtain ⟨_, q, hq⟩ := qa
                have er : Int.fmod i (Int.ofNat (m + 1)) = Int.ofNat (r % (m + 1)) := by
                  show Int.fmod i ((m + 1 : Nat) : Int) = _
                  rw [Int.fmod_eq_emod_of_nonneg _ (Int.natCast_nonneg _), hq]
                  show (((m + 1 : Nat) : Int) * q + (r : Int)) % ((m + 1 : Nat) : Int) = ((r % (m + 1) : Nat) : Int)
                  rw [Int.add_comm, Int.add_mul_emod_self_left]
                  rfl
                rw [← er] at hQ
                exact mod_int' hm (hQ.here R VR.any)
              · cases e; exact hlt rfl
            · cases e; exact hlt rfl
    | Pow =>
      simp only [intOp] at e
      split at e
      · rename_i hs
        have hs' := small_iff hs
        split at e
        · rename_i k
          split at e
          · rename_i hk
            have hk' := Nat.le_of_ble_eq_true hk
            obtain rfl := some_inj e
            obtain ⟨h0, h1⟩ := knOk_lt hkj
            exact pow_int_small h0 (by omega) hs' (hQ.here R VR.any)
          · first | exact none_ne e | cases e
        · split at e
          · split at e
            · rename_i n _ hk
              have hk' := Nat.le_of_ble_eq_true hk
              obtain rfl := some_inj e
              exact pow_int_small (Int.natCast_nonneg n) (by show (n : Int) ≤ 1000000; omega) hs' (hQ.here R VR.any)
            · first | exact none_ne e | cases e
          · first | exact none_ne e | cases e
      · first | exact none_ne e | cases e
    | BitAnd =>
      obtain rfl := some_inj e
      exact and_int (hQ.here R VR.any)
    | _ => first | exact none_ne e | cases e
  | _ => first | exact none_ne e | cases e
end
end
end Mine
set_option maxRecDepth 100000
open PySem PySem.W PyProof.Rows
namespace Mine
section
variable {C : Cx} {ρ : List Addr} {σ σ' : H} {h : Heap} {tk : Nat} {A : Around} {Q : Value → Shared → Prop} {u w : Value}

theorem snd_mulI {a b : AV} {v : AV} (e : mulV a b σ = some (v, σ')) (ha : ∃ i, ival a = some i) (qa : VR C ρ a u) (qb : VR C ρ b w) (R : RR C ρ σ h) (hQ : PV C ρ σ' h v Q) : WP C A (binaryOp .Mult u w) Q h tk := by
  obtain ⟨i, hi⟩ := ha
  cases a with
  | bit x =>
    cases b with
    | bit y =>
      obtain ⟨rfl, rfl⟩ := some_pair e
      obtain ⟨t, rfl⟩ := qa
      obtain ⟨t', rfl⟩ := qb
      exact P.mul_int (hQ.here R (VR.bitOf (by cases x <;> cases y <;> rfl))) (.of_left (bI_bits x))
    | _ => first | exact none_ne e | cases e
  | int i' kn =>
    cases b with
    | int j kj =>
      obtain ⟨⟨t, rfl⟩, _⟩ := qa
      obtain ⟨⟨t', rfl⟩, _⟩ := qb
      simp only [mulV] at e
      split at e
      · rename_i hs
        split at e
        · obtain ⟨rfl, rfl⟩ := some_pair e
          refine P.mul_int (hQ.here R VR.any) (.of_left (intBits_le (small_iff hs)))
        · first | exact none_ne e | cases e
      · first | exact none_ne e | cases e
    | _ => first | exact none_ne e | cases e
  | _ => cases hi

theorem snd_augI {op : Operator} {a b : AV} {v : AV} (e : augV op a b σ = some (v, σ')) (ha : ∃ i, ival a = some i) (qa : VR C ρ a u) (qb : VR C ρ b w) (R : RR C ρ σ h) (hQ : PV C ρ σ' h v Q) : WP C A (inplaceOp op u w) Q h tk := by
  obtain ⟨i, hi⟩ := ha
  obtain ⟨t, rfl⟩ := ival_VR hi qa
  cases op with
  | Add =>
    have gen : (match ival a with
      | some i => match ival b with
        | some j => some (AV.int (i + j) .any, σ)
        | none => none
      | none => none) = some (v, σ') → WP C A (inplaceOp .Add (.int i t) w) Q h tk := by
      intro e
      rw [hi] at e
      simp only at e
      split at e
      · rename_i j hj
        obtain ⟨rfl, rfl⟩ := some_pair e
        obtain ⟨t', rfl⟩ := ival_VR hj qb
        exact P.iadd_int (hQ.here R VR.any)
      · first | exact none_ne e | cases e
    cases a with
    | int i' kn => exact gen e
    | bit c => exact gen e
    | _ => cases hi
  | LShift =>
    cases a with
    | int i' kn =>
      cases b with
      | int j kj =>
        cases hi
        obtain ⟨⟨t', rfl⟩, _⟩ := qb
        simp only [augV] at e
        split at e
        · rename_i hs
          have hs' : i.natAbs < 2 ^ 64 := by
            cases kn with
            | itv l h =>
              obtain ⟨_, h1, h2⟩ := qa
              simp only [smallK, Bool.and_eq_true] at hs
              have a1 := small_iff hs.1
              have a2 := small_iff hs.2
              omega
            | _ => exact small_iff hs
          cases j with
          | negSucc _ => first | exact none_ne e | cases e
          | ofNat n =>
            simp only at e
            split at e
            · rename_i hn
              have hn' := Nat.le_of_ble_eq_true hn
              have fin : VR C ρ v (.int (i * 2 ^ n) tk) → σ' = σ → WP C A (inplaceOp .LShift (.int i t) (.int (Int.ofNat n) t')) Q h tk := by
                intro qv es
                subst es
                exact ilshift_int_small (Int.natCast_nonneg n) (by show (n : Int) ≤ 1000000; omega) hs' (hQ.here R qv)
              split at e
              · rename_i l hh
                obtain ⟨rfl, rfl⟩ := some_pair e
                obtain ⟨_, h1, h2⟩ := qa
                have hp : (0 : Int) ≤ 2 ^ n := Int.pow_nonneg (by decide)
                exact fin ⟨⟨_, rfl⟩, Int.mul_le_mul_of_nonneg_right h1 hp, Int.mul_le_mul_of_nonneg_right h2 hp⟩ rfl
              · obtain ⟨rfl, rfl⟩ := some_pair e
                exact fin VR.any rfl
            · first | exact none_ne e | cases e
        · first | exact none_ne e | cases e
      | _ => first | exact none_ne e | cases e
    | _ => first | exact none_ne e | cases e
  | _ => first | exact none_ne e | cases e

theorem bI_ne (b : Bool) : (bI b != 0) = b := by cases b <;> rfl

theorem snd_truth {a : AV} {b : Bool} (e : truth a σ = some b) (qa : VR C ρ a u) (R : RR C ρ σ h) {Q : Bool → Shared → Prop} (hQ : PB C ρ σ h b Q) : WP C A (truthy u) Q h tk := by
  cases a with
  | bool c => cases e; cases qa; exact wpAny_truthy_bool (hQ.here R)
  | int i kn =>
    obtain rfl := some_inj e
    obtain ⟨⟨t, rfl⟩, _⟩ := qa
    exact P.truthy_int (hQ.here R)
  | bit c =>
    obtain rfl := some_inj e
    obtain ⟨t, rfl⟩ := qa
    refine P.truthy_int ?_
    rw [bI_ne]
    exact hQ.here R
  | bytes l n =>
    simp only [truth] at e
    split at e
    · rename_i hn
      have hn' := Nat.le_of_ble_eq_true hn
      obtain ⟨⟨t, rfl⟩, hl⟩ := qa
      injection e with e
      subst e
      refine truthy_bytes (by simp; omega) ?_
      have e : ((l.toArray.size : Int) != 0) = nonE l := by
        cases l with
        | nil => rfl
        | cons x r =>
          simp [nonE]
          omega
      rw [e]
      exact hQ.here R
    · first | exact none_ne e | cases e
  | _ => first | exact none_ne e | cases e

theorem snd_un {op : UnaryOp} {a v : AV} (e : unV op a σ = some v) (qa : VR C ρ a u) (R : RR C ρ σ h) (hQ : PV C ρ σ h v Q) (ho : op ≠ .Not) : WP C A (unaryOp op u) Q h tk := by
  cases op with
  | Not => exact absurd rfl ho
  | Invert =>
    cases a with
    | int i kn =>
      obtain rfl := some_inj e
      obtain ⟨⟨t, rfl⟩, _⟩ := qa
      refine invert_int ?_
      have e : Builtin.bitNot i = -i - 1 := by first | rfl | exact bitNot_eq i
      rw [e]
      exact hQ.here R VR.any
    | _ => first | exact none_ne e | cases e
  | USub =>
    cases a with
    | int i kn =>
      obtain ⟨⟨t, rfl⟩, hk⟩ := qa
      simp only [unV] at e
      split at e
      · obtain rfl := some_inj e
        obtain ⟨h1, h2⟩ := hk
        exact PyProof.Rows.neg_int (hQ.here R ⟨⟨_, rfl⟩, Int.neg_le_neg h2, Int.neg_le_neg h1⟩)
      · obtain rfl := some_inj e
        exact PyProof.Rows.neg_int (hQ.here R VR.any)
    | _ => first | exact none_ne e | cases e
  | _ => first | exact none_ne e | cases e
end
end Mine
set_option maxRecDepth 100000
open PySem PySem.W PyProof.Rows
namespace Mine
section
variable {C : Cx} {ρ : List Addr} {σ σ' : H} {h : Heap} {tk : Nat} {A : Around} {Q : Value → Shared → Prop} {u w : Value}

/-- the list at k -/
theorem RR.list (R : RR C ρ σ h) {k : Nat} {xs : List AV} (e : listAt σ k = some xs) {v : Value} (q : VR C ρ (.obj k) v) :
    ∃ a vs n, v = .ref a ∧ ρ[k]? = some a ∧ h.get? a = some (listO vs.toArray n) ∧ VRs C ρ xs vs := by
  obtain ⟨a, ea, rfl⟩ := q
  obtain ⟨a', o, ea', ho, vs, n, rfl, q⟩ := R.at (listAt_iff e)
  rw [ea] at ea'; cases ea'
  exact ⟨a, vs, n, rfl, ea, ho, q⟩
theorem isList_of {h : Heap} {a : Addr} {vs : List Value} {n : Nat} (e : h.get? a = some (listO vs.toArray n)) : h.IsList a vs.toArray := ⟨_, e, rfl, n, rfl⟩
theorem isTup_of {h : Heap} {a : Addr} {vs : List Value} {n : Nat} (e : h.get? a = some (tupO vs.toArray n)) : IsTup h a vs.toArray := ⟨_, e, rfl, n, rfl⟩
theorem ivals_ints : ∀ {xs : List AV} {vs : List Value} {l : List Int}, ivals xs = some l → VRs C ρ xs vs → IntsAre vs l
  | [], vs, l, e, q => by cases e; cases q; exact .nil
  | x :: xs, vs, l, e, ⟨u, us, ev, qx, q⟩ => by
    subst ev
    simp only [ivals] at e
    split at e
    · rename_i i hi
      split at e
      · rename_i l' hl
        obtain rfl := some_inj e
        obtain ⟨t, rfl⟩ := ival_VR hi qx
        exact .cons i t (ivals_ints hl q)
      · first | exact none_ne e | cases e
    · first | exact none_ne e | cases e
theorem anyEq_any (i : Int) : ∀ l : List Int, l.any (· == i) = anyEq i l
  | [] => rfl
  | a :: x => by rw [List.any_cons, anyEq_any i x]; rfl
theorem eqInts_dec : ∀ l m : List Int, decide (l = m) = eqInts l m
  | [], [] => rfl
  | [], _ :: _ => rfl
  | _ :: _, [] => rfl
  | a :: x, b :: y => by
    rw [eqInts, ← eqInts_dec x y]
    by_cases h1 : a = b
    · subst h1; by_cases h2 : x = y
      · subst h2; simp
      · simp [h2]
    · simp [h1]

theorem snd_eq {neg : Bool} {a b : AV} {c : Bool} (e : eqV a b σ = some c) (qa : VR C ρ a u) (qb : VR C ρ b w) (R : RR C ρ σ h) (hu : A.units + 64 < cLine) (hQ : PV C ρ σ h (.bool (neg != c)) Q) :
    WP C A (compareOp (match neg with | false => .Eq | true => .NotEq) u w) Q h tk := by
  have num : ∀ {i j : Int}, ival a = some i → ival b = some j → (i == j) = c → WP C A (compareOp (match neg with | false => .Eq | true => .NotEq) u w) Q h tk := by
    intro i j hi hj ec
    obtain ⟨t, rfl⟩ := ival_VR hi qa
    obtain ⟨t', rfl⟩ := ival_VR hj qb
    subst ec
    cases neg with
    | false => exact P.eq_int (hQ.here R (by show Value.bool (i == j) = Value.bool (false != (i == j)); cases i == j <;> rfl))
    | true => exact P.ne_int (hQ.here R (by show Value.bool (i != j) = Value.bool (true != (i == j)); unfold bne; cases i == j <;> rfl))
  cases a with
  | int i kn =>
    simp only [eqV] at e
    split at e
    · rename_i j hj
      obtain rfl := some_inj e
      exact num rfl hj rfl
    · first | exact none_ne e | cases e
  | bit d =>
    cases b with
    | int j kj =>
      refine num rfl rfl ?_
      cases j with
      | negSucc m => cases e; cases d <;> rfl
      | ofNat n =>
        cases n with
        | zero => cases e; cases d <;> rfl
        | succ m =>
          cases m with
          | zero => injection e with e; subst e; cases d <;> rfl
          | succ m =>
            obtain rfl := some_inj e
            cases d
            · rfl
            · show ((1 : Int) == ((m + 1 + 1 : Nat) : Int)) = false
              rw [beq_eq_false_iff_ne]; omega
    | bit d' =>
      refine num rfl rfl ?_
      obtain rfl := some_inj e
      cases d <;> cases d' <;> rfl
    | _ => first | exact none_ne e | cases e
  | bool d =>
    cases b with
    | bool d' =>
      obtain rfl := some_inj e
      cases qa; cases qb
      cases neg with
      | false => exact PyProof.Rows.eq_bool (hQ.here R (by show Value.bool (d == d') = Value.bool (false != (d == d')); cases d == d' <;> rfl))
      | true => exact PyProof.Rows.ne_bool (hQ.here R (by show Value.bool (d != d') = Value.bool (true != (d == d')); unfold bne; cases d == d' <;> rfl))
    | _ => first | exact none_ne e | cases e
  | chr i ka =>
    cases b with
    | chr j kb =>
      obtain rfl := some_inj e
      obtain ⟨⟨x, t, rfl, _, rfl⟩, _⟩ := qa
      obtain ⟨⟨y, t', rfl, _, rfl⟩, _⟩ := qb
      have ee : ((⟨#[x]⟩ : Str) == ⟨#[y]⟩) = ((x : Int) == (y : Int)) := by
        rw [sEqB_beq]
        show lEq [x] [y] = _
        by_cases hxy : x = y
        · subst hxy; simp [lEq]
        · have h1 : Nat.beq x y = false := by
            cases hb : Nat.beq x y with
            | false => rfl
            | true => exact absurd (Nat.eq_of_beq_eq_true hb) hxy
          simp only [lEq, h1]
          symm
          rw [beq_eq_false_iff_ne]; omega
      cases neg with
      | false =>
        refine PyProof.Rows.eq_str (hQ.here R ?_)
        rw [ee]; show Value.bool ((x : Int) == y) = Value.bool (false != ((x : Int) == y)); cases ((x : Int) == y) <;> rfl
      | true =>
        refine PyProof.Rows.ne_str (hQ.here R ?_)
        unfold bne; rw [ee]; show Value.bool (!((x : Int) == y)) = Value.bool (true != ((x : Int) == y)); cases ((x : Int) == y) <;> rfl
    | _ => first | exact none_ne e | cases e
  | bytes l n =>
    cases b with
    | bytes l' n' =>
      obtain rfl := some_inj e
      obtain ⟨⟨t, rfl⟩, _⟩ := qa
      obtain ⟨⟨t', rfl⟩, _⟩ := qb
      cases neg with
      | false => exact eq_bytes (hQ.here R (by show Value.bool (l == l') = Value.bool (false != (l == l')); cases l == l' <;> rfl))
      | true => exact ne_bytes (hQ.here R (by show Value.bool (l != l') = Value.bool (true != (l == l')); unfold bne; cases l == l' <;> rfl))
    | _ => first | exact none_ne e | cases e
  | obj k =>
    cases b with
    | obj k' =>
      simp only [eqV] at e
      split at e
      · rename_i xs hxs
        split at e
        · rename_i ys hys
          split at e
          · rename_i l hl
            split at e
            · rename_i l' hl'
              obtain rfl := some_inj e
              obtain ⟨a, vs, n, rfl, _, ho, q⟩ := R.list hxs qa
              obtain ⟨a', vs', n', rfl, _, ho', q'⟩ := R.list hys qb
              cases neg with
              | false => exact ke_eq_ints (isList_of ho) (isList_of ho') (ivals_ints hl q) (ivals_ints hl' q') hu (hQ.here R (by rw [eqInts_dec]; show _ = Value.bool (false != (eqInts l l')); cases eqInts l l' <;> rfl))
              | true => exact ke_ne_ints (isList_of ho) (isList_of ho') (ivals_ints hl q) (ivals_ints hl' q') hu (hQ.here R (by rw [eqInts_dec]; show _ = Value.bool (true != (eqInts l l')); cases eqInts l l' <;> rfl))
            · first | exact none_ne e | cases e
          · first | exact none_ne e | cases e
        · first | exact none_ne e | cases e
      · first | exact none_ne e | cases e
    | _ => first | exact none_ne e | cases e
  | _ => first | exact none_ne e | cases e

theorem snd_in {neg : Bool} {a b : AV} {c : Bool} (S : SF C) (e : inV a b σ = some c) (qa : VR C ρ a u) (qb : VR C ρ b w) (R : RR C ρ σ h) (hQ : PV C ρ σ h (.bool (neg != c)) Q) :
    WP C A (compareOp (match neg with | false => .In | true => .NotIn) u w) Q h tk := by
  have vb : ∀ c : Bool, VR C ρ (.bool (false != c)) (.bool c) := fun c => by show Value.bool _ = Value.bool _; cases c <;> rfl
  have vn : ∀ c : Bool, VR C ρ (.bool (true != c)) (.bool (!c)) := fun c => by show Value.bool _ = Value.bool _; cases c <;> rfl
  unfold inV at e
  split at e
  · rename_i i hi
    obtain ⟨t, rfl⟩ := ival_VR hi qa
    cases b with
    | obj k =>
      simp only at e
      split at e
      · rename_i xs hxs
        split at e
        · rename_i l hl
          obtain rfl := some_inj e
          obtain ⟨ad, ea, rfl⟩ := qb
          rcases itemsAt_iff hxs with hx | hx
          · obtain ⟨a', o, ea', ho, vs, n, rfl, q⟩ := R.at hx
            rw [ea] at ea'; cases ea'
            cases neg with
            | false => exact in_list_ints (isList_of ho) (ivals_ints hl q) (by rw [anyEq_any]; exact hQ.here R (vb _))
            | true => exact notin_list_ints (isList_of ho) (ivals_ints hl q) (by rw [anyEq_any]; exact hQ.here R (vn _))
          · obtain ⟨a', o, ea', ho, vs, n, rfl, q⟩ := R.at hx
            rw [ea] at ea'; cases ea'
            cases neg with
            | false => exact in_tuple_ints (isTup_of ho) (ivals_ints hl q) (by rw [anyEq_any]; exact hQ.here R (vb _))
            | true => exact notin_tuple_ints (isTup_of ho) (ivals_ints hl q) (by rw [anyEq_any]; exact hQ.here R (vn _))
        · first | exact none_ne e | cases e
      · first | exact none_ne e | cases e
    | bytes l n =>
      cases a with
      | int i' kn =>
        cases hi
        cases i with
        | negSucc _ => first | exact none_ne e | cases e
        | ofNat m =>
          simp only at e
          split at e
          · rename_i hm
            have hm' : m < 256 := Nat.blt_eq.mp hm
            obtain rfl := some_inj e
            obtain ⟨⟨t', rfl⟩, _⟩ := qb
            have g : ∀ (s : Shared) (P : Value → Shared → Prop), P (.bool (l.contains (UInt8.ofNat m))) s → wpAny (model pw C.w) A (call (.builtin "bytes.__contains__") [.bytes l.toArray t', .int (Int.ofNat m) t]) P (fun _ _ => False) s := by
              intro s P hP
              refine wpAny_call_entry FB.slot_bytes_contains (typeIs_bytes s _ _) FB.entry_bytes_contains ?_ (FB.args_bytes_contains_2 _ _)
              show wpAny _ _ (Builtin.Bytes.containsIn "bytes.__contains__" (.bytes l.toArray t') (.int (Int.ofNat m) t) >>= fun r => _) _ _ s
              refine wpAny_bind ?_
              unfold Builtin.Bytes.containsIn
              refine wpAny_bind (wpAny_attempt (wpAny_of_eq (a := Int.ofNat m) rfl ?_))
              refine wpAny_bind (wpAny_of_eq KBy.buffer_eq ?_)
              show wpAny _ _ (if (decide ((Int.ofNat m) < 0) || decide (Int.ofNat m ≥ 256)) = true then _ else _) _ _ s
              rw [if_neg (by simp; omega)]
              refine wpAny_pure (wpAny_pure ⟨_, rfl, ?_⟩)
              have ec : l.toArray.contains (Int.ofNat m).toNat.toUInt8 = l.contains (UInt8.ofNat m) := by
                simp
              rw [ec]
              exact hP
            cases neg with
            | false =>
              show wpAny (model pw C.w) A (do return Value.bool (← contains (.bytes l.toArray t') (.int (Int.ofNat m) t))) Q (fun _ _ => False) _
              refine wpAny_bind (PySem.wpAny_contains_slot (typeIs_bytes _ _ _) FB.slot_bytes_contains (g _ _ (wpAny_truthy_bool (wpAny_pure (hQ.here R (vb _))))))
            | true =>
              show wpAny (model pw C.w) A (do return Value.bool (!(← contains (.bytes l.toArray t') (.int (Int.ofNat m) t)))) Q (fun _ _ => False) _
              refine wpAny_bind (PySem.wpAny_contains_slot (typeIs_bytes _ _ _) FB.slot_bytes_contains (g _ _ (wpAny_truthy_bool (wpAny_pure (hQ.here R (vn _))))))
          · first | exact none_ne e | cases e
      | _ => first | exact none_ne e | cases e
    | set k =>
      simp only at e
      split at e
      · rename_i hk
        obtain rfl := some_inj e
        cases qb
        obtain ⟨n, hS⟩ := S.sets k (Nat.blt_eq.mp hk)
        have hS' : h.SetOf (intKind pw C.w) (C.sa k) (fun i => anyEq i (setElems k)) n := by
          obtain ⟨o, es, ep, t, ho, r⟩ := hS
          exact ⟨o, es, ep, t, R.base _ _ ho, r⟩
        have hk : (intKind pw C.w).is i (.int i t) = true := by simp [intKind, Value.isInt]
        cases neg with
        | false => exact wpAny_inSet_of (s := C.st h tk) hk rfl hS' (hQ.here R (vb _))
        | true => exact wpAny_notInSet_of (s := C.st h tk) hk rfl hS' (hQ.here R (vn _))
      · first | exact none_ne e | cases e
    | _ => first | exact none_ne e | cases e
  · first | exact none_ne e | cases e

theorem snd_isnot {a b : AV} {c : Bool} (e : cmpV .IsNot a b σ = some c) (qa : VR C ρ a u) (qb : VR C ρ b w) (R : RR C ρ σ h) (hQ : PV C ρ σ h (.bool c) Q) :
    WP C A (compareOp .IsNot u w) Q h tk := by
  cases a with
  | bool d =>
    cases b with
    | bool d' =>
      cases e; cases qa; cases qb
      exact isnot_bool (hQ.here R rfl)
    | _ => first | exact none_ne e | cases e
  | obj k =>
    cases b with
    | obj k' =>
      simp only [cmpV] at e
      split at e
      · rename_i xs hxs
        obtain rfl := some_inj e
        obtain ⟨a, vs, n, rfl, ea, ho, _⟩ := R.list hxs qa
        obtain ⟨a', ea', rfl⟩ := qb
        cases hb : Nat.beq k k' with
        | true =>
          have hk := Nat.eq_of_beq_eq_true hb
          subst hk
          rw [ea] at ea'; cases ea'
          exact wpAny_isNot_ref_self (hQ.here R (by rw [hb]; rfl))
        | false =>
          have hk := Nat.ne_of_beq_eq_false hb
          have hne : a ≠ a' := by
            rintro rfl
            obtain ⟨l1, g1⟩ := List.getElem?_eq_some_iff.mp ea
            obtain ⟨l2, g2⟩ := List.getElem?_eq_some_iff.mp ea'
            exact hk ((List.getElem_inj R.nd).mp (g1.trans g2.symm))
          have hl' := (List.getElem?_eq_some_iff.mp ea').1
          rw [R.len] at hl'
          obtain ⟨o', ho', _⟩ := R.obj k' a' σ[k'] ea' (List.getElem?_eq_getElem hl')
          exact wpAny_isNot_ref_other hne ho ho' (fun e => by injection e with e; exact absurd e (by decide)) (hQ.here R (by rw [hb]; rfl))
      · first | exact none_ne e | cases e
    | _ => first | exact none_ne e | cases e
  | _ => first | exact none_ne e | cases e

theorem leA_eq {ka : Kn} {i j : Int} (ha : knOk i ka) : leA ka i j = decide (i ≤ j) := by
  cases ka with
  | itv l h =>
    obtain ⟨h1, h2⟩ := ha
    simp only [leA]
    split
    · rename_i hx; rw [decide_eq_true_eq] at hx; rw [decide_eq_true (by omega)]
    · split
      · rename_i hx; rw [decide_eq_true_eq] at hx; rw [decide_eq_false (by omega)]
      · rfl
  | _ => rfl
theorem leK_eq {ka kb : Kn} {i j : Int} (ha : knOk i ka) (hb : knOk j kb) : leK ka kb i j = decide (i ≤ j) := by
  cases kb with
  | itv l h =>
    obtain ⟨h1, h2⟩ := hb
    simp only [leK]
    split
    · rename_i hx; rw [decide_eq_true_eq] at hx; rw [decide_eq_true (by omega)]
    · split
      · rename_i hx; rw [decide_eq_true_eq] at hx; rw [decide_eq_false (by omega)]
      · rfl
  | _ => exact leA_eq ha
theorem knOf_ok {a : AV} {i : Int} {u : Value} (hi : ival a = some i) (q : VR C ρ a u) : knOk i (knOf a) := by
  cases a with
  | int j kn => cases hi; exact q.2
  | bit b => exact trivial
  | _ => cases hi

theorem snd_cmp {op : CmpOp} {a b : AV} {c : Bool} (S : SF C) (e : cmpV op a b σ = some c) (qa : VR C ρ a u) (qb : VR C ρ b w) (R : RR C ρ σ h) (hu : A.units + 64 < cLine) (hQ : PV C ρ σ h (.bool c) Q) :
    WP C A (compareOp op u w) Q h tk := by
  have num : ∀ (g : Int → Int → Bool), (match ival a with
      | some i => match ival b with
        | some j => some (g i j)
        | none => none
      | none => none) = some c → ∃ i j t t', u = .int i t ∧ w = .int j t' ∧ g i j = c ∧ knOk i (knOf a) ∧ knOk j (knOf b) := by
    intro g e
    split at e
    · rename_i i hi
      split at e
      · rename_i j hj
        obtain rfl := some_inj e
        have ka := knOf_ok hi qa
        have kb := knOf_ok hj qb
        obtain ⟨t, rfl⟩ := ival_VR hi qa
        obtain ⟨t', rfl⟩ := ival_VR hj qb
        exact ⟨i, j, t, t', rfl, rfl, rfl, ka, kb⟩
      · first | exact none_ne e | cases e
    · first | exact none_ne e | cases e
  cases op with
  | Eq => exact snd_eq (neg := false) e qa qb R hu (by rw [show (false != c) = c by cases c <;> rfl]; exact hQ)
  | NotEq =>
    simp only [cmpV] at e
    split at e
    · rename_i c' hc
      obtain rfl := some_inj e
      exact snd_eq (neg := true) hc qa qb R hu (by rw [show (true != c') = !c' by cases c' <;> rfl]; exact hQ)
    · first | exact none_ne e | cases e
  | In => exact snd_in (neg := false) S e qa qb R (by rw [show (false != c) = c by cases c <;> rfl]; exact hQ)
  | NotIn =>
    simp only [cmpV] at e
    split at e
    · rename_i c' hc
      obtain rfl := some_inj e
      exact snd_in (neg := true) S hc qa qb R (by rw [show (true != c') = !c' by cases c' <;> rfl]; exact hQ)
    · first | exact none_ne e | cases e
  | IsNot => exact snd_isnot e qa qb R hQ
  | Lt =>
    obtain ⟨i, j, t, t', rfl, rfl, rfl, ka, kb⟩ := num (fun i j => !(leK (knOf b) (knOf a) j i)) e
    refine P.lt_int (hQ.here R ?_)
    rw [leK_eq kb ka]
    show Value.bool _ = Value.bool _
    congr 1
    by_cases h : i < j
    · rw [decide_eq_true h, decide_eq_false (by omega)]; rfl
    · rw [decide_eq_false h, decide_eq_true (by omega)]; rfl
  | LtE =>
    obtain ⟨i, j, t, t', rfl, rfl, rfl, ka, kb⟩ := num (fun i j => leK (knOf a) (knOf b) i j) e
    refine P.le_int (hQ.here R ?_)
    rw [leK_eq ka kb]
    rfl
  | Gt =>
    obtain ⟨i, j, t, t', rfl, rfl, rfl, ka, kb⟩ := num (fun i j => !(leK (knOf a) (knOf b) i j)) e
    refine P.gt_int (hQ.here R ?_)
    rw [leK_eq ka kb]
    show Value.bool _ = Value.bool _
    congr 1
    by_cases h : i > j
    · rw [decide_eq_true h, decide_eq_false (by omega)]; rfl
    · rw [decide_eq_false h, decide_eq_true (by omega)]; rfl
  | GtE =>
    obtain ⟨i, j, t, t', rfl, rfl, rfl, ka, kb⟩ := num (fun i j => leK (knOf b) (knOf a) j i) e
    refine P.ge_int (hQ.here R ?_)
    rw [leK_eq kb ka]
    rfl
  | Is =>
    simp only [cmpV] at e
    split at e
    · split at e <;> cases e
    · first | exact none_ne e | cases e
end
end Mine
set_option maxRecDepth 100000
open PySem PySem.W PyProof.Rows
namespace Mine
section
variable {C : Cx} {ρ : List Addr} {σ σ' : H} {h : Heap} {tk : Nat} {A : Around} {Q : Value → Shared → Prop} {u w : Value}

theorem push_keep (h : Heap) (o : Obj) : ∀ b x, h.get? b = some x → (h.push o).get? b = some x := fun _ _ e => Heap.get?_push_of_some o e
/-- a list is pushed -/
theorem PV.pushL {xs : List AV} {vs : List Value} (hQ : PV C ρ (σ ++ [.list xs]) h (.obj σ.length) Q) (R : RR C ρ σ h) (q : VRs C ρ xs vs) {arr : Array Value} (ea : arr = vs.toArray) {n : Nat} {tk' : Nat} :
    Q (.ref h.objs.size) (C.st (h.push (listO arr n)) tk') := by
  subst ea
  exact hQ.made R (push_keep _ _) (Nat.le_refl _) (Heap.get?_push_size _ rfl) ⟨vs, n, rfl, q.mono (List.prefix_append _ _)⟩

theorem snd_addL {k k' : Nat} {v : AV} (e : addV (.obj k) (.obj k') σ = some (v, σ')) (qa : VR C ρ (.obj k) u) (qb : VR C ρ (.obj k') w) (R : RR C ρ σ h) (hQ : PV C ρ σ' h v Q) : WP C A (binaryOp .Add u w) Q h tk := by
  simp only [addV] at e
  split at e
  · rename_i xs hxs
    split at e
    · rename_i ys hys
      split at e
      · rename_i hn
        have hn' := Nat.le_of_ble_eq_true hn
        obtain ⟨rfl, rfl⟩ := some_pair e
        obtain ⟨a, vs, n, rfl, _, ho, q⟩ := R.list hxs qa
        obtain ⟨a', vs', n', rfl, _, ho', q'⟩ := R.list hys qb
        have hl := q.length
        have hl' := q'.length
        refine concat_meets (s := C.st h tk) ⟨_, ho, rfl⟩ ⟨_, ho', rfl⟩ noFill_list_add seq_list_add PySem.F.slot_list_add PySem.F.entry_list_add (PySem.F.args_list_add_2 _ _) (list_addW a a' vs.toArray vs'.toArray n n' none none #[] #[] ?_) ⟨ho, ho', ?_⟩
        · rw [sizeLine_eq]; simp; omega
        · exact PV.pushL hQ R (q.append q') (by simp)
      · first | exact none_ne e | cases e
    · first | exact none_ne e | cases e
  · first | exact none_ne e | cases e

theorem rep_fold (vs : List Value) : ∀ n acc, List.foldl (fun x1 x2 : Array Value => x1 ++ x2) acc (List.replicate n vs.toArray) = acc ++ (repL n vs).toArray
  | 0, acc => by simp [repL]
  | n + 1, acc => by
    rw [List.replicate_succ, List.foldl_cons, rep_fold vs n]
    simp [repL]
theorem repL_nil : ∀ n, repL n ([] : List Value) = []
  | 0 => rfl
  | n + 1 => by rw [repL, repL_nil n]; rfl

theorem snd_mulL {k : Nat} {b v : AV} (e : mulV (.obj k) b σ = some (v, σ')) (qa : VR C ρ (.obj k) u) (qb : VR C ρ b w) (R : RR C ρ σ h) (hQ : PV C ρ σ' h v Q) : WP C A (binaryOp .Mult u w) Q h tk := by
  cases b with
  | int j kj =>
    obtain ⟨⟨t, rfl⟩, _⟩ := qb
    cases j with
    | negSucc _ => first | exact none_ne e | cases e
    | ofNat m =>
      simp only [mulV] at e
      split at e
      · rename_i hm
        have hm' := Nat.le_of_ble_eq_true hm
        split at e
        · rename_i xs hxs
          split at e
          · rename_i hn
            have hn' := Nat.le_of_ble_eq_true hn
            obtain ⟨rfl, rfl⟩ := some_pair e
            obtain ⟨a, vs, n, rfl, _, ho, q⟩ := R.list hxs qa
            have hl := q.length
            have hb : vs.length * m ≤ 1000 * 1000 := Nat.mul_le_mul (by omega) hm'
            refine wpAny_binaryOp_repeat_ref (T := "list") (U := "int") (by decide) ⟨_, ho, rfl⟩ (fun s' => typeIs_int s' _ t) noFill_list_mul F.fills_int_mul F.slot_int_rmul repeat_list F.slot_int_index.lookup
              (call_meets F.slot_int_rmul (typeIs_int (C.st h tk) _ t) F.entry_int_rmul (F.args_int_rmul_2 _ _) (int___rmul___int_list _ t a vs.toArray n)
                ⟨ho, rfl, ⟨_, ho, rfl⟩, call_meets F.slot_list_mul ⟨_, ho, rfl⟩ F.entry_list_mul (F.args_list_mul_2 _ _)
                  (AutoListH.list___mul___list_int_3 a vs.toArray n _ t ?_ ?_ ?_) ⟨ho, ?_⟩⟩)
            · simp [Builtin.List.listFitsIndex]; omega
            · simp; omega
            · simp [Builtin.List.listTooLong, sizeLine]; omega
            · refine PV.pushL hQ R (q.rep m) ?_
              rw [rep_fold]
              simp
              cases vs with
              | nil => simp [repL_nil]
              | cons x r => simp
          · first | exact none_ne e | cases e
        · first | exact none_ne e | cases e
      · first | exact none_ne e | cases e
  | _ => first | exact none_ne e | cases e

/-- an object is turned -/
theorem PV.turn {v : AV} {ao : AO} {k : Nat} {a : Addr} {o : Obj} {h' : Heap} {tk' : Nat} (hQ : PV C ρ (σ.set k ao) h v Q) (R : RR C ρ σ h) (ea : ρ[k]? = some a) (hs : ∀ b, b ≠ a → h'.get? b = h.get? b) (ho : h'.get? a = some o) (q : OR C ρ ao o) (qv : VR C ρ v u) :
    Q u (C.st h' tk') := by
  refine hQ ρ h' tk' u ⟨List.prefix_refl _, fun _ x => .inl x, fun b o' _ e => ?_, fun b o' hb _ e => ?_⟩ (R.set ea hs ho q) qv
  · by_cases hb : b = a
    · subst hb; exact ⟨o, ho⟩
    · exact ⟨o', by rw [hs b hb]; exact e⟩
  · rw [hs b (fun e => hb (e ▸ List.mem_of_getElem? ea))]; exact e

theorem mapSeq_listO (f : Array Value → Array Value) (xs : Array Value) (n : Nat) : Obj.mapSeq f (listO xs n) = listO (f xs) (if (f xs).size == xs.size then n else n + 1) := rfl
theorem update_list {h : Heap} {a : Addr} {xs : Array Value} {n : Nat} (ho : h.get? a = some (listO xs n)) (f : Array Value → Array Value) :
    (∃ m, (h.update a (Obj.mapSeq f)).get? a = some (listO (f xs) m)) ∧ ∀ b, b ≠ a → (h.update a (Obj.mapSeq f)).get? b = h.get? b :=
  ⟨⟨_, Heap.get?_update_self _ ho rfl⟩, fun _ hb => Heap.get?_update_other h _ hb.symm⟩

theorem wp_iadd_lists {a a' : Addr} {vs vs' : List Value} {n n' : Nat} {s : Shared} (ho : s.heap.get? a = some (listO vs.toArray n)) (ho' : s.heap.get? a' = some (listO vs'.toArray n')) (hz : vs.length + vs'.length ≤ 1000)
    (hQ : Q (.ref a) { s with heap := s.heap.update a (Obj.mapSeq fun x => x ++ vs'.toArray) }) : wpAny (model pw C.w) A (inplaceOp .Add (.ref a) (.ref a')) Q (fun _ _ => False) s := by
  have hT : s.TypeIs (.ref a) "list" := ⟨_, ho, rfl⟩
  have hT' : s.TypeIs (.ref a') "list" := ⟨_, ho', rfl⟩
  have hsq : isSeqSlot (some (.builtin "list.__iadd__")) = true := by decide +kernel
  have hfi : fillsInplaceSlot (.type "list") "add" (Operator.Add == .Add) = pure false := by
    unfold fillsInplaceSlot
    simp only [F.slot_list_iadd.lookup, pure_bind, hsq]
    rfl
  have hseq : seqSlot? (.type "list") (dunderI "add") = pure (some (.builtin "list.__iadd__")) := PySem.seqSlot_of F.slot_list_iadd.lookup hsq
  unfold inplaceOp
  refine wpAny_holding ?_
  refine wpAny_bind (wpAny_typeOf hT ?_)
  refine wpAny_bind (wpAny_of_eq hfi ?_)
  refine wpAny_bind (PySem.wpAny_binaryOp1_none hT hT' noFill_list_add ?_)
  refine wpAny_bind (wpAny_of_eq hseq ?_)
  refine wpAny_bind (wpAny_rule ?_)
  refine call_meets F.slot_list_iadd hT F.entry_list_iadd (F.args_list_iadd_2 _ _) (AutoSeq1.list___iadd___list_list_0 a vs.toArray n a' vs'.toArray n' ?_ ?_ ?_) ⟨ho, ho', hQ⟩
  · simp [Builtin.List.listTooLong, sizeLine]; omega
  · rw [sizeLine_eq]; simp; omega
  · rw [sizeLine_eq]; simp; omega

theorem snd_augL {op : Operator} {k : Nat} {b v : AV} (e : augV op (.obj k) b σ = some (v, σ')) (qa : VR C ρ (.obj k) u) (qb : VR C ρ b w) (R : RR C ρ σ h) (hQ : PV C ρ σ' h v Q) : WP C A (inplaceOp op u w) Q h tk := by
  cases op with
  | Add =>
    cases b with
    | obj k' =>
      simp only [augV] at e
      split at e
      · first | exact none_ne e | cases e
      · split at e
        · rename_i xs hxs
          split at e
          · rename_i ys hys
            split at e
            · rename_i hn
              have hn' := Nat.le_of_ble_eq_true hn
              obtain ⟨rfl, rfl⟩ := some_pair e
              obtain ⟨a, vs, n, rfl, ea, ho, q⟩ := R.list hxs qa
              obtain ⟨a', vs', n', rfl, _, ho', q'⟩ := R.list hys qb
              have hl := q.length
              have hl' := q'.length
              refine wp_iadd_lists (s := C.st h tk) ho ho' (by omega) ?_
              obtain ⟨⟨m, g1⟩, g2⟩ := update_list ho (fun x => x ++ vs'.toArray)
              exact PV.turn hQ R ea g2 g1 ⟨vs ++ vs', m, by simp, q.append q'⟩ qa
            · first | exact none_ne e | cases e
          · first | exact none_ne e | cases e
        · first | exact none_ne e | cases e
    | _ => first | exact none_ne e | cases e
  | LShift => first | exact none_ne e | cases e
  | _ => first | exact none_ne e | cases e
end
end Mine
set_option maxRecDepth 100000
open PySem PySem.W PyProof.Rows
namespace Mine
section
variable {C : Cx} {ρ : List Addr} {σ σ' : H} {h : Heap} {tk : Nat} {A : Around} {Q : Value → Shared → Prop} {u w : Value}

theorem subs_ops (slice : Expr) (o i : Value) : ∃ ops, subscripted slice false o i = operate ops (getItem o i) := by
  unfold subscripted
  split
  · exact ⟨_, rfl⟩
  · rename_i h; cases h
  · exact ⟨_, rfl⟩
theorem tail_get {value slice : Expr} {o i : Value} {T id : String} {s : Shared} (hT : s.TypeIs o T) (hl : typeLookup (.type T) "__getitem__" = pure (some (.builtin id)))
    (hg : wpAny (model pw C.w) A (getItem o i) Q (fun _ _ => False) s) : wpAny (model pw C.w) A (subscriptTail value slice o i) Q (fun _ _ => False) s := by
  obtain ⟨ops, e⟩ := subs_ops slice o i
  exact tail_any hT hl hg e

theorem idxOf_spec {i : Int} {n j : Nat} (e : idxOf i n = some j) : n ≤ 1000 ∧ ((0 ≤ i ∧ i < n ∧ j = i.toNat) ∨ (i < 0 ∧ -(n : Int) ≤ i ∧ j = (i + n).toNat)) := by
  unfold idxOf at e
  split at e
  · rename_i hn
    refine ⟨Nat.le_of_ble_eq_true hn, ?_⟩
    cases i with
    | ofNat m =>
      simp only at e
      split at e
      · rename_i hm
        have hm' : m < n := Nat.blt_eq.mp hm
        cases e
        left
        exact ⟨Int.natCast_nonneg j, by show (j : Int) < n; omega, rfl⟩
      · first | exact none_ne e | cases e
    | negSucc m =>
      simp only at e
      split at e
      · rename_i hm
        have hm' : m < n := Nat.blt_eq.mp hm
        obtain rfl := some_inj e
        right
        refine ⟨Int.negSucc_lt_zero m, by omega, by omega⟩
      · first | exact none_ne e | cases e
  · first | exact none_ne e | cases e

theorem snd_item {value slice : Expr} {a b v : AV} (e : itemV a b σ = some v) (qa : VR C ρ a u) (qb : VR C ρ b w) (R : RR C ρ σ h) (hQ : PV C ρ σ h v Q) : WP C A (subscriptTail value slice u w) Q h tk := by
  cases a with
  | obj k =>
    simp only [itemV] at e
    split at e
    · rename_i i hi
      obtain ⟨t, rfl⟩ := ival_VR hi qb
      split at e
      · rename_i xs hxs
        split at e
        · rename_i j hj
          obtain ⟨hn, hj⟩ := idxOf_spec hj
          obtain ⟨ad, ea, rfl⟩ := qa
          rcases itemsAt_iff hxs with hx | hx
          · obtain ⟨a', o, ea', ho, vs, n, rfl, q⟩ := R.at hx
            rw [ea] at ea'; cases ea'
            obtain ⟨x, ex, qx⟩ := q.get e
            have hl := q.length
            have hL := isList_of ho
            refine tail_get (s := C.st h tk) (Heap.IsList.typeIs (s := C.st h tk) hL) list_getitem_lookup ?_
            rcases hj with ⟨h0, h1, rfl⟩ | ⟨h0, h1, rfl⟩
            · exact wpAny_getItem_list hL h0 (by omega) (by simpa using ex) (hQ.here R qx)
            · exact wpAny_getItem_list_neg hL h0 (by simp; omega) (by omega) (by simp; rw [← hl]; exact ex) (hQ.here R qx)
          · obtain ⟨a', o, ea', ho, vs, n, rfl, q⟩ := R.at hx
            rw [ea] at ea'; cases ea'
            obtain ⟨x, ex, qx⟩ := q.get e
            have hl := q.length
            have hL := isTup_of ho
            refine tail_get (s := C.st h tk) (IsTup.typeIs (s := C.st h tk) hL) slot_tuple_getitem.lookup ?_
            rcases hj with ⟨h0, h1, rfl⟩ | ⟨h0, h1, rfl⟩
            · refine getItem_tuple hL (by omega) (by omega) (j := i.toNat) ?_ (by simpa using ex) (hQ.here R qx)
              rw [seqIndex_of h0 (by simp; omega)]
            · refine getItem_tuple hL (by omega) (by omega) (j := (i + xs.length).toNat) ?_ (by simpa using ex) (hQ.here R qx)
              rw [seqIndex_neg h0 (by simp; omega)]
              simp [hl]
        · first | exact none_ne e | cases e
      · first | exact none_ne e | cases e
    · first | exact none_ne e | cases e
  | _ => first | exact none_ne e | cases e

theorem wp_setItem {a : Addr} {vs : List Value} {n : Nat} {i : Int} {k : Nat} {t : Tok} {v : Value} {s : Shared} {P : Unit → Shared → Prop} (ho : s.heap.get? a = some (listO vs.toArray n)) (hi : i = k) (hk : k < vs.length) (hz : vs.length ≤ 1000)
    (hQ : P () { s with heap := s.heap.update a (Obj.mapSeq (·.setIfInBounds k v)) }) : wpAny (model pw C.w) A (setItem (.ref a) (.int i t) v) P (fun _ _ => False) s := by
  have hl := isList_of ho
  have hd : (listO vs.toArray n).data = .seq vs.toArray n := rfl
  have h0 : 0 ≤ i := by omega
  have hfit : i < 2 ^ 63 := by omega
  unfold setItem
  try with_reducible refine wpAny_holding ?_
  first | refine wpAny_bind (wpAny_pure ?_) | skip
  refine wpAny_bind (wpAny_sequenceKey hl.typeIs (by decide) ?_)
  refine wpAny_bind (wpAny_callSpecial?_slot (name := Str.ofString "__setitem__") hl.typeIs slot_list_setitem
    (wpAny_call_entry slot_list_setitem hl.typeIs entry_list_setitem ?_ (args_list_setitem _ _ _)))
  show wpAny _ _ (Builtin.List.listSubscript? (.int i t) >>= _) _ _ s
  refine wpAny_bind (wpAny_listSubscript_int (fitsIndex_of h0 hfit) ?_)
  clear hfit h0
  subst hi
  have hj : k < vs.toArray.size := by simpa using hk
  have hx' : vs.toArray[k]? = some vs.toArray[k] := Array.getElem?_eq_getElem hj
  show wpAny _ _ ((seqItemAt a k >>= fun r => pure (r.map (k, ·))) >>= _) _ _ s
  refine wpAny_bind (wpAny_bind (wpAny_seqItemAt ho hd (wpAny_pure ?_)))
  rw [hx']
  show wpAny _ _ (setSeqItemAt a k v >>= _) _ _ s
  refine wpAny_bind (wpAny_setSeqItemAt ho hd ?_)
  first
    | exact wpAny_bind (wpAny_pure (wpAny_pure ⟨.none, rfl, wpAny_pure hQ⟩))
    | exact wpAny_pure ⟨.none, rfl, wpAny_pure hQ⟩

theorem snd_setItem {a b v : AV} {x : Value} (e : setItemV a b v σ = some σ') (qa : VR C ρ a u) (qb : VR C ρ b w) (qv : VR C ρ v x) (R : RR C ρ σ h) {P : Unit → Shared → Prop}
    (hQ : ∀ h' tk', Kx NoP ρ ρ h h' → RR C ρ σ' h' → P () (C.st h' tk')) : WP C A (setItem u w x) P h tk := by
  cases a with
  | obj k =>
    cases b with
    | int i kn =>
      simp only [setItemV] at e
      split at e
      · rename_i xs hxs
        cases i with
        | negSucc _ => first | exact none_ne e | cases e
        | ofNat m =>
          simp only at e
          split at e
          · rename_i j hj
            obtain ⟨hn, hj⟩ := idxOf_spec hj
            obtain rfl := some_inj e
            have hj' : m < xs.length ∧ j = m := by
              rcases hj with ⟨h0, h1, h2⟩ | ⟨h0, _⟩
              · exact ⟨by have h2 : ((m : Nat) : Int) < xs.length := h1; omega, h2⟩
              · exact absurd h0 (Int.not_lt.mpr (Int.natCast_nonneg _))
            obtain ⟨hm, rfl⟩ := hj'
            obtain ⟨⟨t, rfl⟩, _⟩ := qb
            obtain ⟨ad, vs, n, rfl, ea, ho, q⟩ := R.list hxs qa
            have hl := q.length
            refine wp_setItem (s := C.st h tk) ho rfl (by omega) (by omega) ?_
            obtain ⟨⟨m, g1⟩, g2⟩ := update_list ho (fun x_1 => x_1.setIfInBounds j x)
            refine hQ (h.update ad (Obj.mapSeq fun x_1 => x_1.setIfInBounds j x)) tk ⟨List.prefix_refl _, fun _ x => .inl x, fun b o' _ e => ?_, fun b o' hb _ e => ?_⟩ (R.set ea g2 g1 ⟨vs.set j x, m, by simp, q.set qv⟩)
            · by_cases hb : b = ad
              · subst hb; exact ⟨_, g1⟩
              · exact ⟨o', by rw [g2 b hb]; exact e⟩
            · rw [g2 b (fun e => hb (e ▸ List.mem_of_getElem? ea))]; exact e
          · first | exact none_ne e | cases e
      · first | exact none_ne e | cases e
    | _ => first | exact none_ne e | cases e
  | _ => first | exact none_ne e | cases e

/-- the value of an optional part -/
noncomputable def OV (C : Cx) (ρ : List Addr) (o : Option AV) (v : Value) : Prop := match o with
  | none => v = .none
  | some a => VR C ρ a v

theorem natOf_spec {a : AV} {v : Value} {n : Nat} (e : natOf a = some n) (q : VR C ρ a v) : ∃ t, v = .int (n : Int) t := by
  cases a with
  | int i kn =>
    obtain ⟨⟨t, rfl⟩, hk⟩ := q
    cases kn with
    | lt k =>
      obtain rfl := some_inj e
      obtain ⟨h0, _⟩ := knOk_lt hk
      exact ⟨t, by rw [Int.toNat_of_nonneg h0]⟩
    | any => cases i <;> cases e; exact ⟨t, rfl⟩
    | res m r => cases i <;> cases e; exact ⟨t, rfl⟩
    | itv l h => cases i <;> cases e; exact ⟨t, rfl⟩
    | tab j b => cases i <;> cases e; exact ⟨t, rfl⟩
  | _ => first | exact none_ne e | cases e

theorem nth3_pick {α : Type} : ∀ (l : List α) (n c : Nat), l.length ≤ n + 3 * c → (List.range c).filterMap (fun k => l[n + 3 * k]?) = nth3 n l
  | [], n, c, _ => by
    have : (fun k : Nat => ([] : List α)[n + 3 * k]?) = fun _ => none := by funext k; rfl
    rw [this]
    simp [nth3]
  | a :: x, m + 1, c, hc => by
    have e : (fun k : Nat => (a :: x)[m + 1 + 3 * k]?) = fun k => x[m + 3 * k]? := by
      funext k
      rw [show m + 1 + 3 * k = (m + 3 * k) + 1 by omega, List.getElem?_cons_succ]
    rw [e, nth3_pick x m c (by simp at hc; omega)]
    rfl
  | a :: x, 0, 0, hc => by simp at hc
  | a :: x, 0, d + 1, hc => by
    rw [List.range_succ_eq_map, List.filterMap_cons]
    simp only [Nat.mul_zero, Nat.add_zero, List.getElem?_cons_zero, List.filterMap_map]
    have e : ((fun k : Nat => (a :: x)[0 + 3 * k]?) ∘ Nat.succ) = fun k => x[2 + 3 * k]? := by
      funext k
      show (a :: x)[0 + 3 * (k + 1)]? = _
      rw [show 0 + 3 * (k + 1) = (2 + 3 * k) + 1 by omega, List.getElem?_cons_succ]
    rw [e, nth3_pick x 2 d (by simp at hc; omega)]
    rfl
theorem nth3_over {α : Type} : ∀ (l : List α) (n : Nat), l.length ≤ n → nth3 n l = []
  | [], 0, _ => rfl
  | [], _ + 1, _ => rfl
  | a :: x, 0, h => by simp at h
  | a :: x, n + 1, h => nth3_over x n (by simp at h; omega)
theorem nth3_ints : ∀ {vs : List Value} {l : List Int}, IntsAre vs l → ∀ n, IntsAre (nth3 n vs) (nth3 n l)
  | _, _, .nil, 0 => .nil
  | _, _, .nil, _ + 1 => .nil
  | _, _, .cons i t r, 0 => .cons i t (nth3_ints r 2)
  | _, _, .cons i t r, n + 1 => nth3_ints r n

theorem slicePick_three (vs : List Value) (n : Nat) : slicePick vs.toArray (some (n : Int)) none (some 3) = (nth3 n vs).toArray := by
  unfold slicePick sliceBounds sliceRange
  simp only [Option.getD_some, show (3 : Int) > 0 by decide, if_true]
  by_cases hn : n < vs.length
  · have h1 : (max 0 (min (if (n : Int) < 0 then (n : Int) + (vs.toArray.size : Nat) else n) (vs.toArray.size : Nat))) = (n : Int) := by
      rw [if_neg (by omega)]
      simp; omega
    rw [h1, if_pos (by simpa using hn)]
    congr 1
    rw [← nth3_pick vs n ((((vs.toArray.size : Nat) : Int) - n + 3 - 1) / 3).toNat (by simp; omega), List.filterMap_map]
    congr 1
    funext k
    show vs.toArray[((n : Int) + 3 * (k : Int)).toNat]? = _
    rw [show ((n : Int) + 3 * (k : Int)).toNat = n + 3 * k by omega]
    simp
  · have h1 : (max 0 (min (if (n : Int) < 0 then (n : Int) + (vs.toArray.size : Nat) else n) (vs.toArray.size : Nat))) = (vs.toArray.size : Int) := by
      rw [if_neg (by omega)]
      simp; omega
    rw [h1, if_neg (by omega), nth3_over vs n (by omega)]
    rfl

theorem snd_slice {value slice : Expr} {a v : AV} {l m s : Option AV} {lv mv sv : Value} (S : SF C) (e : sliceV a l m s C.ns σ = some (v, σ')) (qa : VR C ρ a u) (ql : OV C ρ l lv) (qm : OV C ρ m mv) (qs : OV C ρ s sv) (R : RR C ρ σ h) (hQ : PV C ρ σ' h v Q) :
    WP C A (subscriptTail value slice u (.ref h.objs.size)) Q (h.push { cls := .type "slice", data := .fields #[lv, mv, sv] }) tk := by
  have made : ∀ {ao : AO} {vs : List Value}, PV C ρ (σ ++ [ao]) h (.obj σ.length) Q → ((∃ n, OR C (ρ ++ [h.objs.size + 1]) ao (listO vs.toArray n)) → True) → OR C (ρ ++ [h.objs.size + 1]) ao (listO vs.toArray 0) → ∀ {tk'},
      Q (.ref (h.push { cls := .type "slice", data := .fields #[lv, mv, sv] }).objs.size) (C.st ((h.push { cls := .type "slice", data := .fields #[lv, mv, sv] }).push (listO vs.toArray 0)) tk') := by
    intro ao vs hQ _ q tk'
    rw [Heap.size_push]
    refine hQ.made R (fun b o e => push_keep _ _ b o (push_keep _ _ b o e)) (Nat.le_succ _) ?_ q
    have := Heap.get?_push_size (h.push { cls := .type "slice", data := .fields #[lv, mv, sv] }) (o := listO vs.toArray 0) rfl
    rw [Heap.size_push] at this
    exact this
  cases a with
  | obj k =>
    simp only [sliceV] at e
    split at e
    · rename_i xs hxs
      split at e
      · first | exact none_ne e | cases e
      · rename_i hz
        have hz' := Nat.le_of_ble_eq_true hz
        obtain ⟨ad, vs, n, rfl, ea, ho, q⟩ := R.list hxs qa
        have hl := q.length
        have hL := (isList_of ho).push { cls := .type "slice", data := .fields #[lv, mv, sv] }
        refine tail_get (s := C.st _ tk) (Heap.IsList.typeIs (s := C.st (h.push { cls := .type "slice", data := .fields #[lv, mv, sv] }) tk) hL) list_getitem_lookup ?_
        have hsz : vs.toArray.size ≤ sizeLine := by rw [sizeLine_eq]; simp; omega
        cases l with
        | some _ => first | exact none_ne e | cases e
        | none =>
          cases ql
          cases s with
          | none =>
            cases qs
            cases m with
            | none =>
              cases qm
              obtain ⟨rfl, rfl⟩ := some_pair e
              refine wpAny_getItem_list_slice (s := C.st _ tk) hL (Heap.IsSliceOf.new ..) .none .none .none (by simp) ?_ hsz
              rw [slicePick_all]
              exact made hQ (fun _ => trivial) ⟨vs, 0, rfl, q.mono (List.prefix_append _ _)⟩
            | some b =>
              cases b with
              | int i kn =>
                cases i with
                | negSucc _ => first | exact none_ne e | cases e
                | ofNat y =>
                  simp only at e
                  split at e
                  · rename_i hy
                    have hy' := Nat.le_of_ble_eq_true hy
                    obtain ⟨rfl, rfl⟩ := some_pair e
                    obtain ⟨⟨t, rfl⟩, _⟩ := qm
                    refine wpAny_getItem_list_slice (s := C.st _ tk) hL (Heap.IsSliceOf.new ..) .none (.int _ t) .none (by simp) ?_ hsz
                    rw [show (some (Int.ofNat y)) = some (y : Int) from rfl, slicePick_upto vs.toArray y (by simp; omega)]
                    exact made (vs := vs.take y) hQ (fun _ => trivial) ⟨vs.take y, 0, rfl, (q.take y).mono (List.prefix_append _ _)⟩
                  · first | exact none_ne e | cases e
              | _ => first | exact none_ne e | cases e
          | some b =>
            cases m with
            | some _ => first | exact none_ne e | cases e
            | none =>
              cases qm
              cases b with
              | int i kn =>
                cases i with
                | ofNat _ => first | exact none_ne e | cases e
                | negSucc y =>
                  cases y with
                  | succ _ => first | exact none_ne e | cases e
                  | zero =>
                    obtain ⟨rfl, rfl⟩ := some_pair e
                    obtain ⟨⟨t, rfl⟩, _⟩ := qs
                    refine wpAny_getItem_list_slice (s := C.st _ tk) hL (Heap.IsSliceOf.new ..) .none .none (.int _ t) (by decide) ?_ hsz
                    rw [show (some (Int.negSucc 0)) = some (-1 : Int) from rfl, krv_pick]
                    exact made (vs := vs.reverse) hQ (fun _ => trivial) ⟨vs.reverse, 0, rfl, q.reverse.mono (List.prefix_append _ _)⟩
              | _ => first | exact none_ne e | cases e
    · first | exact none_ne e | cases e
  | scr =>
    cases qa
    simp only [sliceV] at e
    cases l with
    | none => first | exact none_ne e | cases e
    | some b =>
      cases m with
      | some _ => first | exact none_ne e | cases e
      | none =>
        cases s with
        | none => first | exact none_ne e | cases e
        | some c =>
          simp only at e
          split at e
          · rename_i n hn
            split at e
            · rename_i m hm
              split at e
              · rename_i h3
                have h3' := Nat.eq_of_beq_eq_true h3
                subst h3'
                obtain ⟨rfl, rfl⟩ := some_pair e
                cases qm
                obtain ⟨t, rfl⟩ := natOf_spec hn ql
                obtain ⟨t', rfl⟩ := natOf_spec hm qs
                obtain ⟨vs, k, ho, hi, h63⟩ := S.scr
                have hl := hi.length
                have ho' := R.base _ _ ho
                have hL := (isList_of ho').push { cls := .type "slice", data := .fields #[.int (n : Int) t, .none, .int ((3 : Nat) : Int) t'] }
                refine tail_get (s := C.st _ tk) (Heap.IsList.typeIs (s := C.st (h.push { cls := .type "slice", data := .fields #[.int (n : Int) t, .none, .int ((3 : Nat) : Int) t'] }) tk) hL) list_getitem_lookup ?_
                have hsz : vs.toArray.size ≤ sizeLine := by rw [sizeLine_eq]; simp; omega
                refine wpAny_getItem_list_slice (s := C.st _ tk) hL (Heap.IsSliceOf.new ..) (.int _ t) .none (.int _ t') (by decide) ?_ hsz
                rw [show (some (((3 : Nat) : Int))) = some (3 : Int) from rfl, slicePick_three]
                exact made (vs := nth3 n vs) hQ (fun _ => trivial) ⟨nth3 n vs, 0, rfl, nth3_ints hi n⟩
              · first | exact none_ne e | cases e
            · first | exact none_ne e | cases e
          · first | exact none_ne e | cases e
  | bytes x n =>
    simp only [sliceV] at e
    split at e
    · first | exact none_ne e | cases e
    · rename_i hz
      have hz' := Nat.le_of_ble_eq_true hz
      obtain ⟨⟨tb, rfl⟩, hn⟩ := qa
      cases s with
      | some _ => first | exact none_ne e | cases e
      | none =>
        cases qs
        cases m with
        | none => first | exact none_ne e | cases e
        | some b =>
          simp only at e
          split at e
          · first | exact none_ne e | cases e
          · rename_i j hj
            obtain ⟨t, rfl⟩ := natOf_spec hj qm
            have go : ∀ {lo : Option Int} {y : List UInt8}, IsPart lv lo → (KBy.picked x.toArray lo (some (j : Int))) = y.toArray → v = .bytes y n → σ' = σ → y.length ≤ x.length →
                WP C A (subscriptTail value slice (.bytes x.toArray tb) (.ref h.objs.size)) Q (h.push { cls := .type "slice", data := .fields #[lv, .int (j : Int) t, .none] }) tk := by
              intro lo y pl ey ev es hy
              subst ev es
              refine tail_get (typeIs_bytes _ _ _) FB.slot_bytes_getitem.lookup ?_
              refine getItem_meets (typeIs_bytes _ _ _) (by decide) FB.slot_bytes_getitem FB.entry_bytes_getitem (FB.args_bytes_getitem_2 _ _) (KBc.meets_slice2 x.toArray tb _ pl (.int _ t))
                ⟨Heap.IsSliceOf.new _ _ _ _, Nat.le_trans (KBc.size_picked_le _ _ _) (by rw [sizeLine_eq]; simp; omega), fun t' k => ?_⟩
              rw [ey]
              exact hQ ρ _ k _ (Kx.all _ (push_keep _ _)) (R.keepAll (push_keep _ _)) ⟨⟨t', rfl⟩, by omega⟩
            cases l with
            | none =>
              cases ql
              obtain ⟨rfl, rfl⟩ := some_pair e
              refine go .none ?_ rfl rfl (by rw [List.length_take]; omega)
              rw [KBc.picked_eq]
              simp only [Option.elim, clipAt_nat, List.drop_zero, Nat.sub_zero]
              congr 1
              rw [List.take_eq_take_iff]
              simp
            | some c =>
              simp only at e
              split at e
              · rename_i i hi
                obtain ⟨rfl, rfl⟩ := some_pair e
                obtain ⟨t', rfl⟩ := natOf_spec hi ql
                refine go (.int _ t') ?_ rfl rfl (by rw [List.length_drop, List.length_take]; omega)
                rw [KBc.picked_eq]
                simp only [Option.elim, clipAt_nat]
                congr 1
                apply List.ext_getElem?
                intro q
                simp only [List.getElem?_take, List.getElem?_drop, List.size_toArray]
                by_cases hq : min i x.length + q < x.length
                · by_cases hi' : i ≤ x.length
                  · rw [Nat.min_eq_left hi']
                    rw [Nat.min_eq_left hi'] at hq
                    by_cases hq' : i + q < j
                    · rw [if_pos hq', if_pos (by omega)]
                    · rw [if_neg hq', if_neg (by omega)]
                  · omega
                · have h1 : x[min i x.length + q]? = none := List.getElem?_eq_none (by omega)
                  have h2 : x[i + q]? = none := List.getElem?_eq_none (by omega)
                  rw [h1, h2]
                  simp
              · first | exact none_ne e | cases e
  | _ => first | exact none_ne e | cases e
end
end Mine
set_option maxRecDepth 100000
open PySem PySem.W PyProof.Rows
namespace Mine
section
variable {C : Cx} {ρ : List Addr} {σ σ' : H} {h : Heap} {tk : Nat} {A : Around} {Q : Value → Shared → Prop} {u w : Value}

theorem rep_flat {α : Type} : ∀ (n : Nat) (x : List α), (List.replicate n x).flatten = repL n x
  | 0, _ => rfl
  | n + 1, x => by rw [List.replicate_succ, List.flatten_cons, rep_flat n x]; rfl
theorem rep_len {α : Type} : ∀ (n : Nat) (x : List α), (repL n x).length = n * x.length
  | 0, _ => by simp [repL]
  | n + 1, x => by rw [repL, List.length_append, rep_len n x, Nat.add_mul]; omega

theorem snd_addB {x : List UInt8} {n : Nat} {b v : AV} (e : addV (.bytes x n) b σ = some (v, σ')) (qa : VR C ρ (.bytes x n) u) (qb : VR C ρ b w) (R : RR C ρ σ h) (hQ : PV C ρ σ' h v Q) : WP C A (binaryOp .Add u w) Q h tk := by
  cases b with
  | bytes y m =>
    simp only [addV] at e
    split at e
    · rename_i hn
      have hn' := Nat.le_of_ble_eq_true hn
      obtain ⟨rfl, rfl⟩ := some_pair e
      obtain ⟨⟨t, rfl⟩, hx⟩ := qa
      obtain ⟨⟨t', rfl⟩, hy⟩ := qb
      refine bytes_add_K (by simp; omega) rfl fun t' k => ?_
      exact hQ ρ h k _ (Kx.refl _ _ _) R ⟨⟨t', rfl⟩, by rw [List.length_append]; omega⟩
    · first | exact none_ne e | cases e
  | _ => first | exact none_ne e | cases e
theorem snd_mulB {x : List UInt8} {n : Nat} {b v : AV} (e : mulV (.bytes x n) b σ = some (v, σ')) (qa : VR C ρ (.bytes x n) u) (qb : VR C ρ b w) (R : RR C ρ σ h) (hQ : PV C ρ σ' h v Q) : WP C A (binaryOp .Mult u w) Q h tk := by
  simp only [mulV] at e
  split at e
  · first | exact none_ne e | cases e
  · rename_i hx
    split at e
    · first | exact none_ne e | cases e
    · rename_i hm
      have hm' := Nat.le_of_ble_eq_true hm
      cases b with
      | int j kj =>
        cases j with
        | negSucc _ => first | exact none_ne e | cases e
        | ofNat k =>
          simp only at e
          split at e
          · rename_i hk
            have hk' := Nat.le_of_ble_eq_true hk
            obtain ⟨rfl, rfl⟩ := some_pair e
            obtain ⟨⟨t, rfl⟩, hl⟩ := qa
            obtain ⟨⟨t', rfl⟩, _⟩ := qb
            refine bytes_mul_any (fun e => by subst e; cases hx) (by show _ ≤ (k : Int); omega) (by show (k : Int) ≤ _; omega) (by omega) fun t' tk' => ?_
            rw [show (Int.ofNat k).toNat = k from rfl, rep_flat]
            exact hQ ρ h tk' _ (Kx.refl _ _ _) R ⟨⟨t', rfl⟩, by rw [rep_len]; exact Nat.mul_le_mul_left _ hl⟩
          · first | exact none_ne e | cases e
      | _ => first | exact none_ne e | cases e

theorem snd_bin {op : Operator} {l : Bool} {a b v : AV} (e : binV op l a b σ = some (v, σ')) (qa : VR C ρ a u) (qb : VR C ρ b w) (R : RR C ρ σ h) (hQ : PV C ρ σ' h v Q) : WP C A (binaryOp op u w) Q h tk := by
  have gen : (match ival a with
      | some i => match intOp op i a b with
        | some v => some (v, σ)
        | none => none
      | none => none) = some (v, σ') → WP C A (binaryOp op u w) Q h tk := by
    intro e
    split at e
    · rename_i i hi
      split at e
      · rename_i v' hv
        obtain ⟨rfl, rfl⟩ := some_pair e
        exact snd_intOp hi hv qa qb R hQ
      · first | exact none_ne e | cases e
    · first | exact none_ne e | cases e
  cases op with
  | Add =>
    have e : addV a b σ = some (v, σ') := e
    cases a with
    | obj k =>
      cases b with
      | obj k' => exact snd_addL e qa qb R hQ
      | _ => first | exact none_ne e | cases e
    | bytes x n => exact snd_addB e qa qb R hQ
    | int i kn => exact snd_addI e ⟨_, rfl⟩ qa qb R hQ
    | bit c => exact snd_addI e ⟨_, rfl⟩ qa qb R hQ
    | _ => first | exact none_ne e | cases e
  | Mult =>
    have e : mulV a b σ = some (v, σ') := e
    cases a with
    | obj k => exact snd_mulL e qa qb R hQ
    | bytes x n => exact snd_mulB e qa qb R hQ
    | int i kn => exact snd_mulI e ⟨_, rfl⟩ qa qb R hQ
    | bit c => exact snd_mulI e ⟨_, rfl⟩ qa qb R hQ
    | _ => first | exact none_ne e | cases e
  | Sub => exact snd_subI e qa qb R hQ
  | _ => exact gen e

theorem snd_aug {op : Operator} {a b v : AV} (e : augV op a b σ = some (v, σ')) (qa : VR C ρ a u) (qb : VR C ρ b w) (R : RR C ρ σ h) (hQ : PV C ρ σ' h v Q) : WP C A (inplaceOp op u w) Q h tk := by
  cases a with
  | obj k => exact snd_augL e qa qb R hQ
  | int i kn => exact snd_augI e ⟨_, rfl⟩ qa qb R hQ
  | bit c => exact snd_augI e ⟨_, rfl⟩ qa qb R hQ
  | _ => cases op <;> cases e

theorem wp_sum {a : Addr} {vs : List Value} {l : List Int} {s : Shared} (hh : A.handled = none) (hl : s.heap.IsList a vs.toArray) (hi : IntsAre vs l)
    (hQ : ∀ h' tk t', (∀ b o, s.heap.get? b = some o → h'.get? b = some o) → Q (.int l.sum t') { s with heap := h', toks := tk }) : wpAny (model pw C.w) A (call (.builtin "sum") [.ref a]) Q (fun _ _ => False) s := by
  have hall : AllInts vs.toArray := hi.allInts
  obtain ⟨xs, exs⟩ := hall.items
  rw [exs] at hl
  refine PySem.sum_intListG hh hl fun h' tk t' hk => ?_
  have e : preSum (numAt xs) xs.size = l.sum := by
    have h1 : numsOf vs.toArray.toList = l := by rw [show vs.toArray.toList = vs from rfl, hi.numsOf]
    rw [exs, nums_intItems] at h1
    rw [preSum_eq, List.take_of_length_le (by simp), h1]
  rw [e]
  exact hQ h' tk t' hk
theorem sumFrom_eq : ∀ (l : List Int) (a : Int), sumFrom a l = a + l.sum
  | [], a => by simp [sumFrom]
  | b :: x, a => by rw [sumFrom, sumFrom_eq x, List.sum_cons]; omega

theorem snd_bi {id : Nat} {args : List AV} {vs : List Value} {v : AV} (hh : A.handled = none) (e : biV id args σ = some (v, σ')) (q : VRs C ρ args vs) (R : RR C ρ σ h) (hQ : PV C ρ σ' h v Q) : WP C A (call (.builtin (biName id)) vs) Q h tk := by
  have one : ∀ {a : AV} {u : Value} (id : Nat), biV id [a] σ = some (v, σ') → VR C ρ a u → WP C A (call (.builtin (biName id)) [u]) Q h tk := by
    intro a u id e q
    match id, e with
    | 0, e =>
      cases a with
      | obj k =>
        simp only [biV] at e
        split at e
        · rename_i xs hxs
          split at e
          · rename_i hn
            have hn' := Nat.le_of_ble_eq_true hn
            obtain ⟨rfl, rfl⟩ := some_pair e
            obtain ⟨ad, vs, n, rfl, _, ho, q⟩ := R.list hxs q
            have hl := q.length
            refine len_list (isList_of ho) (by simp; omega) ?_
            have e2 : ((vs.toArray.size : Nat) : Int) = Int.ofNat xs.length := by simp [hl]
            rw [e2]
            exact hQ.here R VR.any
          · first | exact none_ne e | cases e
        · first | exact none_ne e | cases e
      | bytes l n =>
        simp only [biV] at e
        split at e
        · rename_i hn
          have hn' := Nat.le_of_ble_eq_true hn
          obtain ⟨rfl, rfl⟩ := some_pair e
          obtain ⟨⟨t, rfl⟩, hl⟩ := q
          refine len_bytes (by simp; omega) ?_
          have e2 : ((l.toArray.size : Nat) : Int) = Int.ofNat l.length := by simp
          rw [e2]
          exact hQ.here R VR.any
        · first | exact none_ne e | cases e
      | _ => first | exact none_ne e | cases e
    | 1, e =>
      cases a with
      | obj k =>
        obtain ⟨ad, ea, rfl⟩ := q
        have fin : ∀ {l : List Int} {ws : List Value} {n : Nat}, h.get? ad = some (listO ws.toArray n) → IntsAre ws l → v = .int (sumFrom 0 l) .any → σ' = σ → WP C A (call (.builtin "sum") [.ref ad]) Q h tk := by
          intro l ws n ho hi ev es
          subst ev es
          refine wp_sum (s := C.st h tk) hh (isList_of ho) hi fun h' tk' t' hk => ?_
          refine hQ ρ h' tk' _ (Kx.all _ hk) (R.keepAll hk) ?_
          rw [sumFrom_eq, Int.zero_add]
          exact VR.any
        simp only [biV] at e
        split at e
        · rename_i xs hxs
          split at e
          · rename_i l hl
            obtain ⟨rfl, rfl⟩ := some_pair e
            obtain ⟨a', o, ea', ho, ws, n, rfl, q⟩ := R.at hxs
            rw [ea] at ea'; cases ea'
            exact fin ho (ivals_ints hl q) rfl rfl
          · first | exact none_ne e | cases e
        · rename_i l hxs
          obtain ⟨rfl, rfl⟩ := some_pair e
          obtain ⟨a', o, ea', ho, ws, n, rfl, q⟩ := R.at hxs
          rw [ea] at ea'; cases ea'
          exact fin ho q rfl rfl
        · first | exact none_ne e | cases e
      | _ => first | exact none_ne e | cases e
    | 2, e =>
      cases a with
      | chr i ki =>
        obtain ⟨rfl, rfl⟩ := some_pair e
        obtain ⟨⟨c, t, rfl, hc, rfl⟩, _⟩ := q
        exact P.ord_of_char (hQ.here R ⟨⟨_, rfl⟩, Int.natCast_nonneg c, by omega⟩)
      | _ => first | exact none_ne e | cases e
    | 3, e =>
      cases a with
      | int i kn =>
        have fin : ∀ {k : Kn}, knOk i k → 0 ≤ i → i < 1114112 → v = .chr i k → σ' = σ → WP C A (call (.builtin "chr") [u]) Q h tk := by
          intro k hk h0 h1 ev es
          subst ev es
          obtain ⟨⟨t, rfl⟩, _⟩ := q
          exact chr_of_range h0 (by omega) (hQ.here R ⟨⟨i.toNat, _, by omega, by omega, rfl⟩, hk⟩)
        have nat : chrN i σ = some (v, σ') → WP C A (call (.builtin "chr") [u]) Q h tk := by
          intro e
          unfold chrN at e
          cases i with
          | negSucc _ => first | exact none_ne e | cases e
          | ofNat n =>
            simp only at e
            split at e
            · rename_i hn
              have hn' := Nat.blt_eq.mp hn
              obtain ⟨rfl, rfl⟩ := some_pair e
              exact fin (k := .any) trivial (Int.natCast_nonneg n) (by show (n : Int) < _; omega) rfl rfl
            · first | exact none_ne e | cases e
        have q0 := q
        obtain ⟨_, hk⟩ := q0
        cases kn with
        | lt k =>
          simp only [biV] at e
          split at e
          · rename_i hk'
            have hk2 := Nat.le_of_ble_eq_true hk'
            obtain ⟨rfl, rfl⟩ := some_pair e
            obtain ⟨h0, h1⟩ := knOk_lt hk
            exact fin (k := .any) trivial h0 (by omega) rfl rfl
          · first | exact none_ne e | cases e
        | tab j b =>
          obtain ⟨rfl, rfl⟩ := some_pair e
          exact fin hk hk.1 hk.2.1 rfl rfl
        | any => exact nat e
        | res m r => exact nat e
        | itv l h => exact nat e
      | _ => first | exact none_ne e | cases e
    | 4, e =>
      cases a with
      | int i kn =>
        obtain ⟨rfl, rfl⟩ := some_pair e
        obtain ⟨⟨t, rfl⟩, _⟩ := q
        refine call_abs_int fun u tk' => ?_
        have ea : (if i < 0 then -i else i) = Int.ofNat i.natAbs := by
          show _ = (i.natAbs : Int)
          split <;> omega
        rw [ea]
        exact hQ.here R VR.any
      | _ => first | exact none_ne e | cases e
    | n + 5, e =>
      exfalso
      cases a <;> cases e
  match args, q with
  | [], q => first | exact none_ne e | cases e
  | [a], ⟨u, us, ev, qa, qr⟩ =>
    subst ev; cases qr
    exact one id e qa
  | [a, b], ⟨u, us, ev, qa, w, ws, ev2, qb, qr⟩ =>
    subst ev ev2; cases qr
    match id, e with
    | 5, e =>
      cases a with
      | int i kn =>
        cases b with
        | int j kj =>
          cases j with
          | negSucc _ => first | exact none_ne e | cases e
          | ofNat n =>
            cases n with
            | zero => first | exact none_ne e | cases e
            | succ m =>
              simp only [biV] at e
              split at e
              · rename_i hm
                have hm' : m + 1 < 1073741824 := Nat.blt_eq.mp hm
                obtain ⟨rfl, rfl⟩ := some_pair e
                obtain ⟨⟨t, rfl⟩, _⟩ := qa
                obtain ⟨⟨t', rfl⟩, _⟩ := qb
                have hp : (0 : Int) < ((m + 1 : Nat) : Int) := by omega
                refine divmod_int (by show ((m + 1 : Nat) : Int) ≠ 0; omega) ?_ (.inl (PyProof.noPylong_small hm'))
                refine hQ.made R (push_keep _ _) (Nat.le_refl _) (Heap.get?_push_size _ rfl) ⟨[.int (Int.fdiv i (Int.ofNat (m + 1))) _, .int (Int.fmod i (Int.ofNat (m + 1))) _], _, rfl, _, _, rfl, VR.any, _, _, rfl, ⟨⟨_, rfl⟩, Int.fmod_nonneg_of_pos _ hp, Int.fmod_lt_of_pos _ hp⟩, rfl⟩
              · first | exact none_ne e | cases e
        | _ => first | exact none_ne e | cases e
      | _ => first | exact none_ne e | cases e
    | 6, e =>
      cases a with
      | bytes l n =>
        cases b with
        | typ n =>
          simp only [biV] at e
          split at e
          · obtain ⟨rfl, rfl⟩ := some_pair e
            cases qb
            obtain ⟨⟨t, rfl⟩, _⟩ := qa
            exact call_isinstance_yes (typeIs_bytes _ _ _) PySem.F.isi_meta_bytes F.sub_bytes_bytes (hQ.here R rfl)
          · first | exact none_ne e | cases e
        | _ => first | exact none_ne e | cases e
      | _ => first | exact none_ne e | cases e
    | 0, e => first | exact none_ne e | cases e
    | 1, e => first | exact none_ne e | cases e
    | 2, e => first | exact none_ne e | cases e
    | 3, e => first | exact none_ne e | cases e
    | 4, e => first | exact none_ne e | cases e
    | n + 7, e => first | exact none_ne e | cases e
  | _ :: _ :: _ :: _, q => first | exact none_ne e | cases e
end
end Mine
set_option maxRecDepth 100000
open PySem PySem.W PyProof.Rows
namespace Mine

theorem toE_some {r : Option (Res × H)} {k : AV → H → Option (Res × H)} {x : Res × H} (e : toE r k = some x) : ∃ v σ, r = some (.v v, σ) ∧ k v σ = some x := by
  unfold toE at e
  split at e
  · exact ⟨_, _, rfl, e⟩
  · first | exact none_ne e | cases e
theorem toB_some {r : Option (Res × H)} {k : Bool → H → Option (Res × H)} {x : Res × H} (e : toB r k = some x) : ∃ v σ, r = some (.b v, σ) ∧ k v σ = some x := by
  unfold toB at e
  split at e
  · exact ⟨_, _, rfl, e⟩
  · first | exact none_ne e | cases e
theorem toF_some {r : Option (Res × H)} {k : AF → H → Option (Res × H)} {x : Res × H} (e : toF r k = some x) : ∃ v σ, r = some (.f v, σ) ∧ k v σ = some x := by
  unfold toF at e
  split at e
  · exact ⟨_, _, rfl, e⟩
  · first | exact none_ne e | cases e
theorem toFl_some {r : Option (Res × H)} {k : AF → Fl → H → Option (Res × H)} {x : Res × H} (e : toFl r k = some x) : ∃ f w σ, r = some (.fl f w, σ) ∧ k f w σ = some x := by
  unfold toFl at e
  split at e
  · exact ⟨_, _, _, rfl, e⟩
  · first | exact none_ne e | cases e
theorem toVs_some {r : Option (Res × H)} {k : List AV → H → Option (Res × H)} {x : Res × H} (e : toVs r k = some x) : ∃ v σ, r = some (.vs v, σ) ∧ k v σ = some x := by
  unfold toVs at e
  split at e
  · exact ⟨_, _, rfl, e⟩
  · first | exact none_ne e | cases e
theorem toSrc_some {r : Option (Res × H)} {k : Src → H → Option (Res × H)} {x : Res × H} (e : toSrc r k = some x) : ∃ v σ, r = some (.src v, σ) ∧ k v σ = some x := by
  unfold toSrc at e
  split at e
  · exact ⟨_, _, rfl, e⟩
  · first | exact none_ne e | cases e
theorem giveV_some {r : Option (AV × H)} {x : Res × H} (e : giveV r = some x) : ∃ v σ, r = some (v, σ) ∧ x = (.v v, σ) := by
  unfold giveV at e
  split at e
  · cases e; exact ⟨_, _, rfl, rfl⟩
  · first | exact none_ne e | cases e
theorem giveB_some {r : Option Bool} {σ : H} {x : Res × H} (e : giveB r σ = some x) : ∃ b, r = some b ∧ x = (.b b, σ) := by
  unfold giveB at e
  split at e
  · cases e; exact ⟨_, rfl, rfl⟩
  · first | exact none_ne e | cases e

section
variable {C : Cx} {ρ ρ₁ : List Addr} {σ σ' : H} {h h₁ : Heap} {tk : Nat} {A : Around} {f f' : AF} {env : Env}

theorem PV.after {v : AV} {Q : Value → Shared → Prop} (hQ : PV C ρ σ' h v Q) (K : Kx NoP ρ ρ₁ h h₁) : PV C ρ₁ σ' h₁ v Q := fun ρ' h' tk' u K' R q => hQ ρ' h' tk' u (K.trans K') R q
theorem PB.after {b : Bool} {Q : Bool → Shared → Prop} (hQ : PB C ρ σ' h b Q) (K : Kx NoP ρ ρ₁ h h₁) : PB C ρ₁ σ' h₁ b Q := fun ρ' h' tk' K' R => hQ ρ' h' tk' (K.trans K') R
theorem PF.after {fp : List Addr} {Q : Shared → Prop} (hQ : PF C ρ σ' h f f' env fp Q) (K : Kx (Own' f env fp) ρ ρ₁ h h₁) : PF C ρ₁ σ' h₁ f f' env fp Q := fun ρ' h' tk' K' R F => hQ ρ' h' tk' (K.trans K') R F
theorem PS.after {w : Fl} {fp : List Addr} {Q : Flow → Shared → Prop} (hQ : PS C ρ σ' h f f' w env fp Q) (K : Kx (Own' f env fp) ρ ρ₁ h h₁) : PS C ρ₁ σ' h₁ f f' w env fp Q := fun ρ' h' tk' fl K' R F q => hQ ρ' h' tk' fl (K.trans K') R F q
theorem FR.kx (F : FR C ρ f env h) (R : RR C ρ σ h) (K : Kx NoP ρ ρ₁ h h₁) : FR C ρ₁ f env h₁ := F.keep R K.pre K.kp
/-- the own of a frame of the same names -/
theorem Own'.congr (e : f'.names = f.names) {fp : List Addr} {b : Addr} (x : Own' f' env fp b) : Own' f env fp b := x.imp (own_congr e b).mp id
theorem PF.names {g : AF} {fp : List Addr} {Q : Shared → Prop} (e : g.names = f.names) (hQ : PF C ρ σ' h f f' env fp Q) : PF C ρ σ' h g f' env fp Q :=
  fun ρ' h' tk' K R F => hQ ρ' h' tk' (K.mono fun _ x => Own'.congr e x) R F
theorem PS.names {g : AF} {w : Fl} {fp : List Addr} {Q : Flow → Shared → Prop} (e : g.names = f.names) (hQ : PS C ρ σ' h f f' w env fp Q) : PS C ρ σ' h g f' w env fp Q :=
  fun ρ' h' tk' fl K R F q => hQ ρ' h' tk' fl (K.mono fun _ x => Own'.congr e x) R F q

theorem sameBut_get {b : Addr} {h h' : Heap} (s : Heap.SameBut b h h') {a : Addr} {o : Obj} (hab : a ≠ b) (e : h.get? a = some o) : h'.get? a = some o := s.extBut a o hab e

/-- what a name of the frame is bound to -/
theorem snd_setVar {x : Str} {v : AV} {u : Value} (e : setVar f x v = some f') (R : RR C ρ σ h) (F : FR C ρ f env h) (q : VR C ρ v u) {Q : Unit → Shared → Prop} (hQ : PF C ρ σ h f f' env [] (Q ())) :
    WP C A (storeName env x u) Q h tk := by
  unfold setVar at e
  split at e
  · rename_i i k hs
    have hk := F.kd x i k hs
    have hi : i < f.vals.length := by
      rw [F.len]
      have := slot_lt hs
      omega
    split at e
    · obtain rfl := some_inj e
      have hl : env.scope.names.lookup x = some .local := by rcases hk with hk | ⟨hk, _⟩; exact hk; cases hk
      obtain ⟨m, hn, hm⟩ := F.loc
      refine wpAny_storeName_local (kindOf_of hl) hn (fun h' hn' hsb => ?_) (by rw [F.kind]; rfl)
      have K : Kx (Own' f env []) ρ ρ h h' := by
        refine ⟨List.prefix_refl _, fun _ y => .inl y, fun b o _ e => ?_, fun b o _ hP e => sameBut_get hsb (fun eb => hP (.inl (.inl eb))) e⟩
        by_cases hb : b = env.locals
        · subst hb
          obtain ⟨o', _, _, ho', _⟩ := hn'
          exact ⟨o', ho'⟩
        · exact ⟨o, sameBut_get hsb hb e⟩
      have hloc := F.loc_not R
      have Rk : RR C ρ σ h' := R.keep fun b o hb e => sameBut_get hsb (by
        rintro rfl
        rcases hb with hb | hb
        · exact hb F.fresh
        · exact hloc hb) e
      refine hQ ρ h' _ K Rk ⟨F.kind, F.glob, F.blt, F.kd, by rw [List.length_set]; exact F.len, ⟨_, hn', fun y j v' hy hv => ?_⟩, fun y j k' hy hk' => ?_, F.apart, F.fresh, F.cfresh⟩
      · by_cases hyx : y = x
        · subst hyx
          rw [hs] at hy; cases hy
          rw [List.getElem?_set_self hi] at hv
          cases hv
          exact ⟨u, by rw [if_pos rfl], q⟩
        · have hji : i ≠ j := by
            rintro rfl
            exact hyx (slot_inj hy hs)
          rw [List.getElem?_set_ne hji] at hv
          obtain ⟨u', hu', q'⟩ := hm y j v' hy hv
          exact ⟨u', by rw [if_neg hyx]; exact hu', q'⟩
      · have hji : i ≠ j := by
          rintro rfl
          have := slot_inj hy hs
          subst this
          rw [hs] at hy
          cases hy
          rcases hk' with h | h <;> cases h
        obtain ⟨c, vo, hc, ⟨o, ho, hd⟩, hv⟩ := F.cel y j k' hy hk'
        refine ⟨c, vo, hc, ⟨o, sameBut_get hsb ?_ ho, hd⟩, fun v' hv' => hv v' ?_⟩
        · rintro rfl
          obtain ⟨o', es, ep, ho', hd', _⟩ := hn
          rw [ho] at ho'; cases ho'
          rw [hd] at hd'; cases hd'
        · rw [List.getElem?_set_ne hji] at hv'; exact hv'
    · obtain rfl := some_inj e
      have hl : env.scope.names.lookup x = some .cell := by rcases hk with hk | ⟨hk, _⟩; exact hk; cases hk
      obtain ⟨c, vo, hc, hcell, hv⟩ := F.cel x i .cell hs (.inl rfl)
      have hcn := F.cel_not R hs (.inl rfl) hc
      have hcf := F.cfresh x i c hs hc
      refine wpAny_storeName_cell F.kind (kindOf_of hl) hc hcell fun h' hcell' hsb => ?_
      have K : Kx (Own' f env []) ρ ρ h h' := by
        refine ⟨List.prefix_refl _, fun _ y => .inl y, fun b o _ e => ?_, fun b o _ hP e => sameBut_get hsb (fun eb => hP (.inl (.inr ⟨x, i, hs, eb ▸ hc⟩))) e⟩
        by_cases hb : b = c
        · subst hb
          obtain ⟨o', ho', _⟩ := hcell'
          exact ⟨o', ho'⟩
        · exact ⟨o, sameBut_get hsb hb e⟩
      have Rk : RR C ρ σ h' := R.keep fun b o hb e => sameBut_get hsb (by
        rintro rfl
        rcases hb with hb | hb
        · exact hb hcf
        · exact hcn hb) e
      obtain ⟨m, hn, hm⟩ := F.loc
      have hn' : h'.Ns env.locals m := by
        refine hn.at' fun o e => sameBut_get hsb ?_ e
        rintro rfl
        obtain ⟨o', ho', hd'⟩ := hcell
        obtain ⟨o'', es, ep, ho'', hd'', _⟩ := hn
        rw [ho'] at ho''; cases ho''
        rw [hd'] at hd''; cases hd''
      refine hQ ρ h' _ K Rk ⟨F.kind, F.glob, F.blt, F.kd, by rw [List.length_set]; exact F.len, ⟨m, hn', fun y j v' hy hv' => ?_⟩, fun y j k' hy hk' => ?_, F.apart, F.fresh, F.cfresh⟩
      · have hji : i ≠ j := by
          rintro rfl
          have := slot_inj hy hs
          subst this
          rw [hs] at hy
          cases hy
        rw [List.getElem?_set_ne hji] at hv'
        exact hm y j v' hy hv'
      · by_cases hyx : y = x
        · subst hyx
          rw [hs] at hy; cases hy
          refine ⟨c, some u, hc, hcell', fun v' hv' => ?_⟩
          rw [List.getElem?_set_self hi] at hv'
          cases hv'
          exact ⟨u, rfl, q⟩
        · have hji : i ≠ j := by
            rintro rfl
            exact hyx (slot_inj hy hs)
          obtain ⟨c', vo', hc', ⟨o, ho, hd⟩, hv'⟩ := F.cel y j k' hy hk'
          refine ⟨c', vo', hc', ⟨o, sameBut_get hsb ?_ ho, hd⟩, fun v' hv'' => hv' v' ?_⟩
          · rintro rfl
            exact hyx (F.apart y x c' hc' hc)
          · rw [List.getElem?_set_ne hji] at hv''; exact hv''
    · first | exact none_ne e | cases e
  · first | exact none_ne e | cases e
end
end Mine
set_option maxRecDepth 100000
open PySem PySem.W PyProof.Rows
namespace Mine
section
variable {C : Cx} {n : Nat} {orc : Orc} {ih : EvT} {f : AF} {σ σ' : H} {r : Res}

theorem AOk.room {A : Around} (h : AOk n A) (hn : 40 ≤ n) : A.units + 64 < cLine := by
  have := h.units
  have e : cLine = 9900 := by first | rfl | decide
  omega

theorem starEach_plain {x : Expr} {xs : List Expr} {env : Env} (e : isStarredB x = false) : starEach (x :: xs) env = (false, eval x env) :: starEach xs env := by
  cases x <;> first | rfl | cases e

theorem snd_stEs (hih : Snd C n ih) {xs : List Expr} (e : stEs ih f xs σ = some (r, σ')) : Mean C (n + 1) (.es f xs) σ r σ' := by
  cases xs with
  | nil =>
    obtain ⟨rfl, rfl⟩ := some_pair e
    refine ⟨fun x hx => (nomatch hx), fun env A ρ h tk Q pos hA R F hQ => wpAny_items_nil (hQ ρ h tk [] (Kx.refl _ _ _) R rfl)⟩
  | cons x xs =>
    simp only [stEs] at e
    split at e
    · first | exact none_ne e | cases e
    · rename_i hx
      obtain ⟨v, σ1, e1, e⟩ := toE_some e
      obtain ⟨vs, σ2, e2, e⟩ := toVs_some e
      obtain ⟨rfl, rfl⟩ := some_pair e
      obtain ⟨hs, m2⟩ := hih _ _ _ _ e2
      have m1 := hih _ _ _ _ e1
      refine ⟨fun y hy => ?_, fun env A ρ h tk Q pos hA R F hQ => ?_⟩
      · rcases List.mem_cons.mp hy with rfl | hy
        · exact hx
        · exact hs y hy
      · refine wpAny_items_cons (m1 env A ρ h tk _ (hA.less (Nat.le_succ n)) R F fun ρ1 h1 tk1 u1 K1 R1 q1 => ?_) (starEach_plain hx)
        refine m2 env A ρ1 h1 tk1 _ pos (hA.less (Nat.le_succ n)) R1 (F.kx R K1) fun ρ2 h2 tk2 us K2 R2 q2 => ?_
        exact hQ ρ2 h2 tk2 _ (K1.trans K2) R2 ⟨u1, us, rfl, q1.mono K2.pre, q2⟩

theorem snd_stT (hih : Snd C n ih) {x : Expr} (e : stT ih f x σ = some (r, σ')) : Mean C (n + 1) (.t f x) σ r σ' := by
  cases r with
  | b b =>
    intro env A ρ h tk Q hA R F hQ
    have gen : toE (ih (.e f x) σ) (fun v σ => giveB (truth v σ) σ) = some (.b b, σ') → (isTrue x env (eval x env) = (do let v ← eval x env; standAt x.pos; holding [v] (truthy v))) → WP C A (isTrue x env (eval x env)) Q h tk := by
      intro e he
      obtain ⟨v, σ1, e1, e⟩ := toE_some e
      obtain ⟨b', e2, e⟩ := giveB_some e
      cases e
      refine wpAny_isTrue_value (hih _ _ _ _ e1 env A ρ h tk _ (hA.less (Nat.le_succ n)) R F fun ρ1 h1 tk1 u1 K1 R1 q1 => ?_) he
      exact snd_truth e2 q1 R1 (hQ.after K1)
    cases x with
    | UnaryOp op y p =>
      cases op with
      | Not =>
        obtain ⟨b1, σ1, e1, e⟩ := toB_some e
        (obtain ⟨e, rfl⟩ := some_pair e; cases e)
        exact wpAny_isTrue_Not (hih _ _ _ _ e1 env A ρ h tk _ (hA.less (Nat.le_succ n)) R F fun ρ1 h1 tk1 K1 R1 => hQ ρ1 h1 tk1 K1 R1)
      | _ => exact gen e rfl
    | BoolOp op vs p =>
      exact wpAny_isTrue_BoolOp (hih _ _ _ _ e env A ρ h tk _ (hA.less (Nat.le_succ n)) R F hQ)
    | IfExp t a b p => first | exact none_ne e | cases e
    | Compare l ops cs p =>
      obtain ⟨v, σ1, e1, e⟩ := toE_some e
      rw [arm_isTrue_Compare]
      refine wpAny_bind (hih _ _ _ _ e1 env A ρ h tk _ (hA.less (Nat.le_succ n)) R F fun ρ1 h1 tk1 u1 K1 R1 q1 => ?_)
      exact hih _ _ _ _ e env A ρ1 h1 tk1 _ p u1 (hA.less (Nat.le_succ n)) R1 (F.kx R K1) q1 (hQ.after K1)
    | _ => exact gen e rfl
  | _ => trivial

theorem snd_stTs (hih : Snd C n ih) {op : BoolOp} {xs : List Expr} (e : stTs ih f op xs σ = some (r, σ')) : Mean C (n + 1) (.ts f op xs) σ r σ' := by
  cases r with
  | b b =>
    intro env A ρ h tk Q hA R F hQ
    cases op with
    | And =>
      cases xs with
      | nil => cases e; exact wpAny_allTrue_And_nil (hQ.here R)
      | cons x rest =>
        obtain ⟨b1, σ1, e1, e⟩ := toB_some e
        refine wpAny_allTrue_And_cons (hih _ _ _ _ e1 env A ρ h tk _ (hA.less (Nat.le_succ n)) R F fun ρ1 h1 tk1 K1 R1 => ?_)
        cases b1 with
        | true => exact hih _ _ _ _ e env A ρ1 h1 tk1 _ (hA.less (Nat.le_succ n)) R1 (F.kx R K1) (hQ.after K1)
        | false => cases e; exact hQ ρ1 h1 tk1 K1 R1
    | Or =>
      cases xs with
      | nil => cases e; exact wpAny_allTrue_Or_nil (hQ.here R)
      | cons x rest =>
        obtain ⟨b1, σ1, e1, e⟩ := toB_some e
        refine wpAny_allTrue_Or_cons (hih _ _ _ _ e1 env A ρ h tk _ (hA.less (Nat.le_succ n)) R F fun ρ1 h1 tk1 K1 R1 => ?_)
        cases b1 with
        | false => exact hih _ _ _ _ e env A ρ1 h1 tk1 _ (hA.less (Nat.le_succ n)) R1 (F.kx R K1) (hQ.after K1)
        | true => cases e; exact hQ ρ1 h1 tk1 K1 R1
  | _ => trivial

theorem snd_stCh (S : SF C) (hn : 40 ≤ n) (hih : Snd C n ih) {l : AV} {ops : List CmpOp} {xs : List Expr} (e : stCh ih f l ops xs σ = some (r, σ')) : Mean C (n + 1) (.ch f l ops xs) σ r σ' := by
  cases r with
  | v v =>
    intro env A ρ h tk Q pos lv hA R F ql hQ
    match ops, xs, e with
    | [op], [x], e =>
      simp only [stCh] at e
      split at e
      · first | exact none_ne e | cases e
      · rename_i hm
        obtain ⟨v1, σ1, e1, e⟩ := toE_some e
        split at e
        · rename_i c hc
          (obtain ⟨e, rfl⟩ := some_pair e; cases e)
          show WP C A (do
            let rv ← holding [lv] (markedBehindIn op x (eval x env))
            standAt pos
            operate [lv, rv] (compareOp op lv rv)) Q h tk
          rw [markedBehindIn_of_false hm]
          refine wpAny_bind (wpAny_holding (hih _ _ _ _ e1 env A ρ h tk _ (hA.less (Nat.le_succ n)) R F fun ρ1 h1 tk1 u1 K1 R1 q1 => ?_))
          refine wpAny_bind (wpAny_standAt (wpAny_operating ?_))
          exact snd_cmp S hc (ql.mono K1.pre) q1 R1 (hA.room (Nat.le_succ_of_le hn)) (hQ.after K1)
        · first | exact none_ne e | cases e
    | [], _, e => first | exact none_ne e | cases e
    | [_], [], e => first | exact none_ne e | cases e
    | [_], _ :: _ :: _, e => first | exact none_ne e | cases e
    | _ :: _ :: _, _, e => first | exact none_ne e | cases e
  | _ => trivial

theorem snd_stTch (S : SF C) (hn : 40 ≤ n) (hih : Snd C n ih) {l : AV} {ops : List CmpOp} {xs : List Expr} (e : stTch ih f l ops xs σ = some (r, σ')) : Mean C (n + 1) (.tch f l ops xs) σ r σ' := by
  cases r with
  | b b =>
    intro env A ρ h tk Q pos lv hA R F ql hQ
    match ops, xs, e with
    | [op], [x], e =>
      simp only [stTch] at e
      split at e
      · first | exact none_ne e | cases e
      · rename_i hm
        obtain ⟨v1, σ1, e1, e⟩ := toE_some e
        split at e
        · first | exact none_ne e | cases e
        · rename_i c hc
          (obtain ⟨e, rfl⟩ := some_pair e; cases e)
          show WP C A (do
            let rv ← holding [lv] (markedBehindIn op x (eval x env))
            standAt pos
            let c ← operate [lv, rv] (compareOp op lv rv)
            holding [c] (truthy c)) Q h tk
          rw [markedBehindIn_of_false hm]
          refine wpAny_bind (wpAny_holding (hih _ _ _ _ e1 env A ρ h tk _ (hA.less (Nat.le_succ n)) R F fun ρ1 h1 tk1 u1 K1 R1 q1 => ?_))
          refine wpAny_bind (wpAny_standAt (wpAny_bind (wpAny_operating ?_)))
          refine snd_cmp S hc (ql.mono K1.pre) q1 R1 (hA.room (Nat.le_succ_of_le hn)) fun ρ2 h2 tk2 u2 K2 R2 q2 => ?_
          cases q2
          exact wpAny_holding (wpAny_truthy_bool (hQ ρ2 h2 tk2 (K1.trans K2) R2))
    | op :: op' :: ops, x :: x' :: xs, e =>
      simp only [stTch] at e
      split at e
      · first | exact none_ne e | cases e
      · rename_i hm
        obtain ⟨v1, σ1, e1, e⟩ := toE_some e
        split at e
        · first | exact none_ne e | cases e
        · rename_i c hc
          show WP C A (do
            let rv ← holding [lv] (eval x env)
            standAt pos
            let c ← holding [lv, rv] (compareOp op lv rv)
            release [lv, rv] [c]
            if ← holding [c, rv] (truthy c) then testChain pos rv (op' :: ops) (markedEach (op' :: ops) (x' :: xs) (evalEach (x' :: xs) env)) else pure false) Q h tk
          refine wpAny_bind (wpAny_holding (hih _ _ _ _ e1 env A ρ h tk _ (hA.less (Nat.le_succ n)) R F fun ρ1 h1 tk1 u1 K1 R1 q1 => ?_))
          refine wpAny_bind (wpAny_standAt (wpAny_bind (wpAny_holding ?_)))
          refine snd_cmp S hc (ql.mono K1.pre) q1 R1 (hA.room (Nat.le_succ_of_le hn)) fun ρ2 h2 tk2 u2 K2 R2 q2 => ?_
          cases q2
          refine wpAny_bind (wpAny_release (wpAny_bind (wpAny_holding (wpAny_truthy_bool ?_))))
          have K12 := K1.trans K2
          cases c with
          | true => exact hih _ _ _ _ e env A ρ2 h2 tk2 _ pos u1 (hA.less (Nat.le_succ n)) R2 (F.kx R K12) (q1.mono K2.pre) (hQ.after K12)
          | false => cases e; exact wpAny_pure (hQ ρ2 h2 tk2 K12 R2)
    | [], _, e => first | exact none_ne e | cases e
    | _ :: _, [], e => first | exact none_ne e | cases e
    | [_], _ :: _ :: _, e =>
      exfalso
      simp only [stTch] at e
      split at e
      · first | exact none_ne e | cases e
      · obtain ⟨v1, σ1, e1, e⟩ := toE_some e
        split at e <;> cases e
    | _ :: _ :: _, [_], e =>
      exfalso
      simp only [stTch] at e
      split at e
      · first | exact none_ne e | cases e
      · obtain ⟨v1, σ1, e1, e⟩ := toE_some e
        split at e <;> cases e
  | _ => trivial

theorem snd_stAs (hn : 40 ≤ n) (hih : Snd C n ih) {t : Expr} {v : AV} (e : stAs ih f t v σ = some (r, σ')) : Mean C (n + 1) (.as f t v) σ r σ' := by
  cases r with
  | f f' =>
    cases t with
    | Name id p =>
      have e : (match setVar f id v with
        | some f' => some (Res.f f', σ)
        | none => none) = some (.f f', σ') := e
      split at e
      · rename_i f1 h1
        (obtain ⟨e, rfl⟩ := some_pair e; cases e)
        refine ⟨setVar_names h1, fun env A ρ h tk Q u hA R F q hQ => ?_⟩
        exact PyProof.Rows.assign_Name (snd_setVar h1 R F q hQ)
      · first | exact none_ne e | cases e
    | Subscript o i p =>
      have e : (match isSliceB i with
        | true => none
        | false => toE (ih (.e f o) σ) fun a σ => toE (ih (.e f i) σ) fun b σ => match setItemV a b v σ with
          | some σ' => some (Res.f f, σ')
          | none => none) = some (.f f', σ') := e
      split at e
      · first | exact none_ne e | cases e
      · rename_i hsl
        obtain ⟨a, σ1, e1, e⟩ := toE_some e
        obtain ⟨b, σ2, e2, e⟩ := toE_some e
        split at e
        · rename_i σ3 h3
          (obtain ⟨e, rfl⟩ := some_pair e; cases e)
          refine ⟨rfl, fun env A ρ h tk Q u hA R F q hQ => ?_⟩
          rw [arm_assign_Subscript]
          refine wpAny_bind (wpAny_holding (hih _ _ _ _ e1 env A ρ h tk _ (hA.less (Nat.le_succ n)) R F fun ρ1 h1 tk1 u1 K1 R1 q1 => ?_))
          refine wpAny_bind (wpAny_holding (hih _ _ _ _ e2 env A ρ1 h1 tk1 _ (hA.less (Nat.le_succ n)) R1 (F.kx R K1) fun ρ2 h2 tk2 u2 K2 R2 q2 => ?_))
          refine wpAny_bind (wpAny_standAt (wpAny_bind (wpAny_holding (snd_setItem h3 (q1.mono K2.pre) q2 (q.mono (K1.trans K2).pre) R2 fun h' tk' K' R' => ?_))))
          have K := (K1.trans K2).trans K'
          exact wpAny_release (hQ ρ2 h' tk' K.no R' (F.kx R K))
        · first | exact none_ne e | cases e
    | Tuple ts k p =>
      cases v with
      | obj k =>
        have e : (match σ[k]? with
          | some (.tup xs) => match Nat.beq xs.length ts.length with
            | true => ih (.asn f ts xs) σ
            | false => none
          | _ => none) = some (.f f', σ') := e
        split at e
        · rename_i xs hxs
          split at e
          · rename_i hlen
            have hlen' := Nat.eq_of_beq_eq_true hlen
            obtain ⟨hnm, hl, hst, m⟩ := hih _ _ _ _ e
            refine ⟨hnm, fun env A ρ h tk Q u hA R F q hQ => ?_⟩
            obtain ⟨ad, ea, rfl⟩ := q
            obtain ⟨a', o, ea', ho, vs, n', rfl, q⟩ := R.at hxs
            rw [ea] at ea'; cases ea'
            have hvs := q.length
            have hlenE : ∀ {ts : List Expr}, (assignEach ts env).length = ts.length := by
              intro ts
              induction ts with
              | nil => rfl
              | cons t ts ih => cases t <;> (show _ + 1 = _ + 1; rw [← ih])
            have hstE : ∀ {ts : List Expr}, (∀ x ∈ ts, isStarredB x = false) → (assignEach ts env).findIdx? (·.1) = none := by
              intro ts hts
              rw [List.findIdx?_eq_none_iff]
              induction ts with
              | nil => intro x hx; cases hx
              | cons t ts ih =>
                have ht := hts t List.mem_cons_self
                have ee : assignEach (t :: ts) env = (false, assign t env) :: assignEach ts env := by cases t <;> first | rfl | cases ht
                intro x hx
                rw [ee] at hx
                rcases List.mem_cons.mp hx with rfl | hx
                · rfl
                · exact ih (fun y hy => hts y (List.mem_cons_of_mem _ hy)) x hx
            refine PyProof.Rows.assign_Tuple_tuple hA.handled (isTup_of ho) (by rw [hlenE]; simp; omega) (hstE hst) fun h' hext => ?_
            have hk : ∀ b o, h.get? b = some o → h'.get? b = some o := fun b o e => hext b o (fun eb => Nat.lt_irrefl _ (eb ▸ Heap.lt_size e)) e
            have K : Kx NoP ρ ρ h h' := Kx.all _ hk
            exact m env A ρ h' tk _ vs (hA.less (Nat.le_succ n)) (R.keepAll hk) (F.kx R K) q (hQ.after K.no)
          · first | exact none_ne e | cases e
        · first | exact none_ne e | cases e
      | _ => first | exact none_ne e | cases e
    | _ => first | exact none_ne e | cases e
  | _ => trivial

theorem snd_stAsn (hih : Snd C n ih) {ts : List Expr} {vs : List AV} (e : stAsn ih f ts vs σ = some (r, σ')) : Mean C (n + 1) (.asn f ts vs) σ r σ' := by
  cases r with
  | f f' =>
    cases ts with
    | nil =>
      cases vs with
      | nil =>
        (obtain ⟨e, rfl⟩ := some_pair e; cases e)
        refine ⟨rfl, rfl, fun x hx => (nomatch hx), fun env A ρ h tk Q us hA R F q hQ => ?_⟩
        exact wpAny_pure (hQ ρ h tk (Kx.refl _ _ _) R F)
      | cons v vs => first | exact none_ne e | cases e
    | cons t ts =>
      cases vs with
      | nil => first | exact none_ne e | cases e
      | cons v vs =>
        simp only [stAsn] at e
        split at e
        · first | exact none_ne e | cases e
        · rename_i hst
          obtain ⟨f1, σ1, e1, e⟩ := toF_some e
          obtain ⟨hn1, m1⟩ := hih _ _ _ _ e1
          obtain ⟨hn2, hl, hs2, m2⟩ := hih _ _ _ _ e
          refine ⟨hn2.trans hn1, by rw [List.length_cons, List.length_cons, hl], fun x hx => ?_, fun env A ρ h tk Q us hA R F q hQ => ?_⟩
          · rcases List.mem_cons.mp hx with rfl | hx
            · exact hst
            · exact hs2 x hx
          · obtain ⟨u, us', rfl, q1, q2⟩ := q
            have ee : assignEach (t :: ts) env = (false, assign t env) :: assignEach ts env := by cases t <;> first | rfl | cases hst
            rw [ee]
            refine PyProof.Rows.assignInOrder_cons ?_
            refine m1 env A ρ h tk _ u (hA.less (Nat.le_succ n)) R F q1 fun ρ1 h1 tk1 K1 R1 F1 => ?_
            exact m2 env A ρ1 h1 tk1 _ us' (hA.less (Nat.le_succ n)) R1 F1 (q2.mono K1.pre) ((hQ.after K1).names hn1)
  | _ => trivial
end
end Mine
set_option maxRecDepth 100000
open PySem PySem.W PyProof.Rows
namespace Mine
section
variable {C : Cx} {n : Nat} {orc : Orc} {ih : EvT} {f : AF} {σ σ' : H} {r : Res}

theorem assignEach_len {env : Env} : ∀ {ts : List Expr}, (assignEach ts env).length = ts.length
  | [] => rfl
  | t :: ts => by cases t <;> (show _ + 1 = _ + 1; rw [← assignEach_len (ts := ts)])
theorem assignEach_star {env : Env} {ts : List Expr} (hts : ∀ x ∈ ts, isStarredB x = false) : (assignEach ts env).findIdx? (·.1) = none := by
  rw [List.findIdx?_eq_none_iff]
  induction ts with
  | nil => intro x hx; cases hx
  | cons t ts ih =>
    have ht := hts t List.mem_cons_self
    have ee : assignEach (t :: ts) env = (false, assign t env) :: assignEach ts env := by cases t <;> first | rfl | cases ht
    intro x hx
    rw [ee] at hx
    rcases List.mem_cons.mp hx with rfl | hx
    · rfl
    · exact ih (fun y hy => hts y (List.mem_cons_of_mem _ hy)) x hx

theorem snd_stAsp (hih : Snd C n ih) {t : Expr} {i : Nat} {v : AV} (e : stAsp ih f t i v σ = some (r, σ')) : Mean C (n + 1) (.asp f t i v) σ r σ' := by
  cases r with
  | f f' =>
    cases t with
    | Tuple ts k p =>
      match ts, e with
      | [a, b], e =>
        obtain ⟨hnm, hl, hst, m⟩ := hih _ _ _ _ e
        refine ⟨hnm, ⟨_, _, _, rfl⟩, fun env A ρ h tk Q ad u tkn m' hA R F q ho hQ => ?_⟩
        refine PyProof.Rows.assign_Tuple_tuple hA.handled (isTup_of (vs := [.int (i : Int) tkn, u]) ho) (by rw [assignEach_len]; rfl) (assignEach_star hst) fun h' hext => ?_
        have hk : ∀ b o, h.get? b = some o → h'.get? b = some o := fun b o e => hext b o (fun eb => Nat.lt_irrefl _ (eb ▸ Heap.lt_size e)) e
        have K : Kx NoP ρ ρ h h' := Kx.all _ hk
        exact m env A ρ h' tk _ _ (hA.less (Nat.le_succ n)) (R.keepAll hk) (F.kx R K) ⟨_, _, rfl, VR.any, _, _, rfl, q, rfl⟩ (hQ.after K.no)
      | [], e => first | exact none_ne e | cases e
      | [_], e => first | exact none_ne e | cases e
      | _ :: _ :: _ :: _, e => first | exact none_ne e | cases e
    | _ => first | exact none_ne e | cases e
  | _ => trivial

theorem snd_optE (hih : Snd C n ih) {x : Option Expr} {k : Option AV → H → Option (Res × H)} {res : Res × H} (e : optE ih f x σ k = some res) : ∃ o σ1, k o σ1 = some res ∧
    ∀ env A ρ h tk (Q : Value → Shared → Prop), AOk n A → RR C ρ σ h → FR C ρ f env h → (∀ ρ' h' tk' u, Kx NoP ρ ρ' h h' → RR C ρ' σ1 h' → OV C ρ' o u → Q u (C.st h' tk')) → WP C A (evalPart x env) Q h tk := by
  cases x with
  | none =>
    exact ⟨none, σ, e, fun env A ρ h tk Q hA R F hQ => wpAny_pure (hQ ρ h tk _ (Kx.refl _ _ _) R rfl)⟩
  | some y =>
    obtain ⟨v, σ1, e1, e⟩ := toE_some e
    exact ⟨some v, σ1, e, fun env A ρ h tk Q hA R F hQ => hih _ _ _ _ e1 env A ρ h tk Q hA R F hQ⟩

theorem OV.mono {ρ ρ' : List Addr} (hp : ρ <+: ρ') {o : Option AV} {v : Value} (q : OV C ρ o v) : OV C ρ' o v := by
  cases o with
  | none => exact q
  | some a => exact VR.mono hp q

theorem snd_const {c : Const} {v : AV} (e : constV c = some v) {k : Nat} {p : Pos} {env : Env} {A : Around} {ρ : List Addr} {h : Heap} {tk : Nat} {Q : Value → Shared → Prop} (R : RR C ρ σ h) (hQ : PV C ρ σ h v Q) : WP C A (eval (.Constant c k p) env) Q h tk := by
  cases c with
  | none => cases e; exact wpAny_Constant_none (hQ.here R rfl)
  | bool b => cases e; exact wpAny_Constant_bool (hQ.here R rfl)
  | int i => cases e; exact wpAny_Constant_int (hQ.here R VR.any)
  | bytes b => cases e; exact Constant_bytes (hQ.here R ⟨⟨_, rfl⟩, Nat.le_refl _⟩)
  | str s =>
    simp only [constV] at e
    split at e
    · rename_i c hc
      split at e
      · rename_i hlt
        have hlt' := Nat.blt_eq.mp hlt
        obtain rfl := some_inj e
        obtain ⟨cps⟩ := s
        have hc' : cps.toList = [c] := hc
        have hc2 : cps = #[c] := by rw [← Array.toList_inj]; exact hc'
        subst hc2
        exact wpAny_Constant_str (hQ.here R ⟨⟨c, _, rfl, hlt', rfl⟩, trivial⟩)
      · first | exact none_ne e | cases e
    · first | exact none_ne e | cases e
  | _ => first | exact none_ne e | cases e

theorem snd_sub (S : SF C) (hih : Snd C n ih) {o i : Expr} {p : Pos} (e : stE C.ns orc ih f (.Subscript o i p) σ = some (r, σ')) : Mean C (n + 1) (.e f (.Subscript o i p)) σ r σ' := by
  have plain : (toE (ih (.e f o) σ) fun a σ => toE (ih (.e f i) σ) fun b σ => match itemV a b σ with
      | some v => some (Res.v v, σ)
      | none => none) = some (r, σ') → Mean C (n + 1) (.e f (.Subscript o i p)) σ r σ' := by
    intro e
    obtain ⟨a, σ1, e1, e⟩ := toE_some e
    obtain ⟨b, σ2, e2, e⟩ := toE_some e
    split at e
    · rename_i v hv
      obtain ⟨rfl, rfl⟩ := some_pair e
      intro env A ρ h tk Q hA R F hQ
      refine Subscript_ (hih _ _ _ _ e1 env A ρ h tk _ (hA.less (Nat.le_succ n)) R F fun ρ1 h1 tk1 u1 K1 R1 q1 => ?_)
      refine hih _ _ _ _ e2 env A ρ1 h1 tk1 _ (hA.less (Nat.le_succ n)) R1 (F.kx R K1) fun ρ2 h2 tk2 u2 K2 R2 q2 => ?_
      exact snd_item hv (q1.mono K2.pre) q2 R2 (hQ.after (K1.trans K2))
    · first | exact none_ne e | cases e
  cases i with
  | Slice l u s ps =>
    obtain ⟨a, σ1, e1, e⟩ := toE_some e
    obtain ⟨lv, σ2, e, m2⟩ := snd_optE hih e
    obtain ⟨uv, σ3, e, m3⟩ := snd_optE hih e
    obtain ⟨sv, σ4, e, m4⟩ := snd_optE hih e
    obtain ⟨v, σ5, e5, e⟩ := giveV_some e
    cases e
    intro env A ρ h tk Q hA R F hQ
    refine Subscript_ (hih _ _ _ _ e1 env A ρ h tk _ (hA.less (Nat.le_succ n)) R F fun ρ1 h1 tk1 u1 K1 R1 q1 => ?_)
    refine wpAny_Slice (m2 env A ρ1 h1 tk1 _ (hA.less (Nat.le_succ n)) R1 (F.kx R K1) fun ρ2 h2 tk2 u2 K2 R2 q2 => ?_)
    refine m3 env A ρ2 h2 tk2 _ (hA.less (Nat.le_succ n)) R2 (F.kx R (K1.trans K2)) fun ρ3 h3 tk3 u3 K3 R3 q3 => ?_
    refine m4 env A ρ3 h3 tk3 _ (hA.less (Nat.le_succ n)) R3 (F.kx R ((K1.trans K2).trans K3)) fun ρ4 h4 tk4 u4 K4 R4 q4 => ?_
    have K34 := K3.trans K4
    exact snd_slice S e5 (q1.mono (K2.trans K34).pre) (q2.mono K34.pre) (q3.mono K4.pre) q4 R4 (hQ.after ((K1.trans K2).trans K34))
  | _ => exact plain e

theorem snd_seq (hih : Snd C n ih) {es : List Expr} {env : Env} {A : Around} {ρ : List Addr} {h : Heap} {tk : Nat} {vs : List AV} {σ1 : H} {pos : Pos} (e : ih (.es f es) σ = some (.vs vs, σ1)) {P : List Value → Shared → Prop} (hA : AOk n A) (R : RR C ρ σ h) (F : FR C ρ f env h)
    (hP : ∀ ρ' h' tk' us, Kx NoP ρ ρ' h h' → RR C ρ' σ1 h' → VRs C ρ' vs us → P us (C.st h' tk')) : WP C A (spliced (backTo pos (starEach es env))) P h tk :=
  (hih _ _ _ _ e).2 env A ρ h tk P pos hA R F hP

theorem snd_stE0 (S : SF C) (hn : 40 ≤ n) (hih : Snd C n ih) {x : Expr} (hcall : ∀ g as ks p, x ≠ .Call g as ks p) (hcomp : ∀ a b c d, x ≠ .ListComp a b c d) (e : stE C.ns orc ih f x σ = some (r, σ')) : Mean C (n + 1) (.e f x) σ r σ' := by
  cases x with
  | Constant c k p =>
    have e : (match constV c with
      | some v => some (Res.v v, σ)
      | none => none) = some (r, σ') := e
    cases hv : constV c with
    | none => rw [hv] at e; cases e
    | some v =>
      rw [hv] at e
      obtain ⟨rfl, rfl⟩ := some_pair e
      intro env A ρ h tk Q hA R F hQ
      exact snd_const hv R hQ
  | Name id p =>
    have e : (match getVar f id with
      | some v => some (Res.v v, σ)
      | none => none) = some (r, σ') := e
    cases hv : getVar f id with
    | none => rw [hv] at e; cases e
    | some v =>
      rw [hv] at e
      obtain ⟨rfl, rfl⟩ := some_pair e
      intro env A ρ h tk Q hA R F hQ
      exact snd_getVar S R F hv fun u q => hQ.here R q
  | BinOp l op y p =>
    obtain ⟨a, σ1, e1, e⟩ := toE_some e
    obtain ⟨b, σ2, e2, e⟩ := toE_some e
    obtain ⟨v, σ3, e3, e⟩ := giveV_some e
    cases e
    intro env A ρ h tk Q hA R F hQ
    refine wpAny_BinOp (hih _ _ _ _ e1 env A ρ h tk _ (hA.less (Nat.le_succ n)) R F fun ρ1 h1 tk1 u1 K1 R1 q1 => ?_)
    refine hih _ _ _ _ e2 env A ρ1 h1 tk1 _ (hA.less (Nat.le_succ n)) R1 (F.kx R K1) fun ρ2 h2 tk2 u2 K2 R2 q2 => ?_
    exact snd_bin e3 (q1.mono K2.pre) q2 R2 (hQ.after (K1.trans K2))
  | UnaryOp op y p =>
    obtain ⟨a, σ1, e1, e⟩ := toE_some e
    split at e
    · rename_i v hv
      obtain ⟨rfl, rfl⟩ := some_pair e
      intro env A ρ h tk Q hA R F hQ
      refine wpAny_UnaryOp (hih _ _ _ _ e1 env A ρ h tk _ (hA.less (Nat.le_succ n)) R F fun ρ1 h1 tk1 u1 K1 R1 q1 => ?_)
      cases op with
      | Not =>
        simp only [unV] at hv
        split at hv
        · rename_i b hb
          cases hv
          exact not_value (snd_truth hb q1 R1 fun ρ2 h2 tk2 K2 R2 => hQ ρ2 h2 tk2 _ (K1.trans K2) R2 rfl)
        · cases hv
      | Invert => exact snd_un hv q1 R1 (hQ.after K1) (fun h => nomatch h)
      | USub => exact snd_un hv q1 R1 (hQ.after K1) (fun h => nomatch h)
      | UAdd => cases hv
    · first | exact none_ne e | cases e
  | IfExp t a b p =>
    obtain ⟨c, σ1, e1, e⟩ := toB_some e
    cases r with
    | v v =>
      intro env A ρ h tk Q hA R F hQ
      refine wpAny_IfExp (hih _ _ _ _ e1 env A ρ h tk _ (hA.less (Nat.le_succ n)) R F fun ρ1 h1 tk1 K1 R1 => ?_)
      cases c with
      | true => exact hih _ _ _ _ e env A ρ1 h1 tk1 _ (hA.less (Nat.le_succ n)) R1 (F.kx R K1) (hQ.after K1)
      | false => exact hih _ _ _ _ e env A ρ1 h1 tk1 _ (hA.less (Nat.le_succ n)) R1 (F.kx R K1) (hQ.after K1)
    | _ => trivial
  | List es p =>
    obtain ⟨vs, σ1, e1, e⟩ := toVs_some e
    split at e
    · rename_i hz
      have hz' := Nat.le_of_ble_eq_true hz
      obtain ⟨rfl, rfl⟩ := some_pair e
      intro env A ρ h tk Q hA R F hQ
      refine wpAny_List (snd_seq hih e1 (hA.less (Nat.le_succ n)) R F fun ρ1 h1 tk1 us K1 R1 q1 => ?_)
      have hl := q1.length
      exact ⟨by rw [sizeLine_eq]; omega, (hQ.after K1).made R1 (push_keep _ _) (Nat.le_refl _) (Heap.get?_push_size _ rfl) ⟨us, _, rfl, q1.mono (List.prefix_append _ _)⟩⟩
    · first | exact none_ne e | cases e
  | Tuple es k p =>
    obtain ⟨vs, σ1, e1, e⟩ := toVs_some e
    split at e
    · rename_i hz
      have hz' := Nat.le_of_ble_eq_true hz
      obtain ⟨rfl, rfl⟩ := some_pair e
      intro env A ρ h tk Q hA R F hQ
      refine wpAny_Tuple (snd_seq hih e1 (hA.less (Nat.le_succ n)) R F fun ρ1 h1 tk1 us K1 R1 q1 => ?_)
      have hl := q1.length
      exact ⟨by rw [sizeLine_eq]; omega, (hQ.after K1).made R1 (push_keep _ _) (Nat.le_refl _) (Heap.get?_push_size _ rfl) ⟨us, _, rfl, q1.mono (List.prefix_append _ _)⟩⟩
    · first | exact none_ne e | cases e
  | Compare l ops cs p =>
    obtain ⟨a, σ1, e1, e⟩ := toE_some e
    cases r with
    | v v =>
      intro env A ρ h tk Q hA R F hQ
      rw [arm_eval_Compare]
      refine wpAny_bind (hih _ _ _ _ e1 env A ρ h tk _ (hA.less (Nat.le_succ n)) R F fun ρ1 h1 tk1 u1 K1 R1 q1 => ?_)
      exact hih _ _ _ _ e env A ρ1 h1 tk1 _ p u1 (hA.less (Nat.le_succ n)) R1 (F.kx R K1) q1 (hQ.after K1)
    | _ => trivial
  | Subscript o i p => exact snd_sub S hih e
  | Call g as ks p => exact absurd rfl (hcall g as ks p)
  | ListComp a b c d => exact absurd rfl (hcomp a b c d)
  | _ => first | exact none_ne e | cases e
end
end Mine
set_option maxRecDepth 100000
open PySem PySem.W PyProof.Rows
namespace Mine
section
variable {C : Cx} {n N : Nat} {orc : Orc} {ih : EvT} {f : AF} {σ σ' : H} {r : Res}

theorem wp_append {a : Addr} {vs : List Value} {m : Nat} {x : Value} {s : Shared} {A : Around} {Q : Value → Shared → Prop} (ho : s.heap.get? a = some (listO vs.toArray m)) (hz : vs.length ≤ 1000)
    (hQ : Q .none { s with heap := s.heap.update a (Obj.mapSeq (·.push x)) }) : wpAny (model pw C.w) A (call (.builtin "list.append") [.ref a, x]) Q (fun _ _ => False) s := by
  refine wpAny_call_entry slot_list_append (isList_of ho).typeIs entry_list_append ?_ (args_list_append _ _)
  show wpAny _ _ (updateSeq a (·.push x) >>= fun _ => ret .none) _ _ s
  refine wpAny_bind ?_
  exact wpAny_updateSeq ho rfl (wpAny_pure ⟨.none, rfl, hQ⟩) (by rw [sizeLine_eq]; simp; omega) (by rw [sizeLine_eq]; simp; omega)

theorem snd_append {k : Nat} {v : AV} {ρ : List Addr} {h : Heap} {tk : Nat} {A : Around} {D : Addr} {x : Value} {res : Res × H} (e : appendV (.obj k) v σ = some res) (R : RR C ρ σ h) (ed : ρ[k]? = some D) (q : VR C ρ v x) :
    ∃ σ1, res = (.v .none, σ1) ∧ ∀ Q : Value → Shared → Prop, (∀ h', Kx NoP ρ ρ h h' → RR C ρ σ1 h' → Q .none (C.st h' tk)) → WP C A (call (.builtin "list.append") [.ref D, x]) Q h tk := by
  simp only [appendV] at e
  split at e
  · rename_i xs hxs
    split at e
    · rename_i hz
      have hz' := Nat.le_of_ble_eq_true hz
      obtain rfl := some_inj e
      refine ⟨_, rfl, fun Q hQ => ?_⟩
      obtain ⟨a, vs, m, ea, ea', ho, qs⟩ := R.list hxs ⟨D, ed, rfl⟩
      cases ea
      have hl := qs.length
      obtain ⟨⟨m', g1⟩, g2⟩ := update_list ho (fun y => y.push x)
      refine wp_append (s := C.st h tk) ho (by omega) ?_
      refine hQ (h.update D (Obj.mapSeq fun y => y.push x)) ⟨List.prefix_refl _, fun _ y => .inl y, fun b o' _ e => ?_, fun b o' hb _ e => ?_⟩ (R.set ed g2 g1 ⟨vs ++ [x], m', by simp, qs.append ⟨x, [], rfl, q, rfl⟩⟩)
      · by_cases hb : b = D
        · subst hb; exact ⟨_, g1⟩
        · exact ⟨o', by rw [g2 b hb]; exact e⟩
      · rw [g2 b (fun e => hb (e ▸ List.mem_of_getElem? ed))]; exact e
    · first | exact none_ne e | cases e
  · first | exact none_ne e | cases e

theorem back_plain {pos : Pos} {env : Env} : ∀ {es : List Expr}, (∀ x ∈ es, isStarredB x = false) → (backTo pos (starEach es env)).any (·.1) = false
  | [], _ => rfl
  | x :: xs, h => by
    rw [starEach_plain (h x List.mem_cons_self)]
    show (false || (backTo pos (starEach xs env)).any (·.1)) = false
    rw [back_plain fun y hy => h y (List.mem_cons_of_mem _ hy)]
    rfl
theorem evalArgs_of {M : Model} {A : Around} {E : Value → Shared → Prop} {s : Shared} {g : Value} {pos : Pos} {env : Env} {Q : Args → Shared → Prop} : ∀ {es : List Expr}, (∀ x ∈ es, isStarredB x = false) →
    wpAny M A (spliced (backTo pos (starEach es env))) (fun vs s' => Q ⟨vs, []⟩ s') E s → wpAny M A (evalArgs g true (backTo pos (starEach es env)) []) Q E s
  | [], _, h => by
    show wpAny M A (evalArgs g true [] []) Q E s
    have h' : wpAny M A (spliced []) (fun vs s' => Q ⟨vs, []⟩ s') E s := h
    unfold evalArgs
    show wpAny M A (spliced [] >>= _) Q E s
    refine wpAny_bind (wpAny_mono h' (fun vs s' h' => wpAny_bind (wpAny_pure ?_)) fun _ _ x => x)
    refine wpAny_holding ?_
    exact wpAny_bind (wpAny_pure (wpAny_bind (wpAny_pure (wpAny_pure h'))))
  | x :: xs, hs, h => by
    rw [starEach_plain (hs x List.mem_cons_self)] at h ⊢
    exact Calls.evalArgs_plain h

theorem snd_apply (S : SF C) (hn : 40 ≤ n) (hN : N ≤ n) (hO : OSnd C orc N) (hih : Snd C n ih) {g : AV} {vs : List AV} {gv : Value} {v : AV} {pos : Pos} {env : Env} {es : List Expr} {σ1 : H} {A : Around} {ρ : List Addr} {h : Heap} {tk : Nat} {Q : Value → Shared → Prop}
    (e1 : ih (.es f es) σ = some (.vs vs, σ1)) (e : applyV orc ih g vs σ1 = some (.v v, σ')) (hA : AOk (n + 1) A) (R : RR C ρ σ h) (F : FR C ρ f env h) (q : VR C ρ g gv) (hQ : PV C ρ σ' h v Q) :
    WP C A (callWith pos gv [] (backTo pos (starEach es env)) []) Q h tk := by
  have hA' := hA.less (Nat.le_succ n)
  have hst := (hih _ _ _ _ e1).1
  cases g with
  | fn i =>
    cases q
    simp only [applyV] at e
    split at e
    · rename_i hi
      obtain ⟨fn, o, pm, cd, doc, hf, ho, hd, _⟩ := S.fns i (Nat.blt_eq.mp hi)
      have m : Mean C n (.ca i vs) σ1 (.v v) σ' := by
        split at e
        · rename_i v' σ2 ho
          (obtain ⟨e, rfl⟩ := some_pair e; cases e)
          exact hO n _ _ _ _ _ ho hN
        · exact hih _ _ _ _ e
      refine PySem.callWith_function_kw (evalArgs_of hst (snd_seq hih e1 hA' R F fun ρ1 h1 tk1 us K1 R1 q1 => ⟨⟨R1.base _ _ ho, hd⟩, ?_⟩))
      exact m A ρ1 h1 tk1 Q us hA' R1 q1 (hQ.after K1)
    · first | exact none_ne e | cases e
  | bi k =>
    cases q
    obtain ⟨v', σ2, e2, e⟩ := giveV_some e
    cases e
    refine Calls.callWith_builtin (back_plain hst) (evalArgs_of hst (snd_seq hih e1 hA' R F fun ρ1 h1 tk1 us K1 R1 q1 => ?_))
    exact snd_bi hA.handled e2 q1 R1 (hQ.after K1)
  | typ k =>
    cases q
    match k, vs, e1, e with
    | 2, [.int i kn], e1, e =>
      (obtain ⟨e, rfl⟩ := some_pair e; cases e)
      refine PyProof.Rows.callWith_type (back_plain hst) (evalArgs_of hst (snd_seq hih e1 hA' R F fun ρ1 h1 tk1 us K1 R1 q1 => ?_))
      obtain ⟨u, us', rfl, qi, qr⟩ := q1
      cases qr
      have qi0 := qi
      obtain ⟨⟨t, rfl⟩, _⟩ := qi0
      exact PySem.call_int_int (hQ ρ1 h1 tk1 _ K1 R1 qi)
    | 2, [], _, e => first | exact none_ne e | cases e
    | 2, .none :: _, _, e => first | exact none_ne e | cases e
    | 2, .bool _ :: _, _, e => first | exact none_ne e | cases e
    | 2, .bit _ :: _, _, e => first | exact none_ne e | cases e
    | 2, .chr _ _ :: _, _, e => first | exact none_ne e | cases e
    | 2, .bytes _ _ :: _, _, e => first | exact none_ne e | cases e
    | 2, .typ _ :: _, _, e => first | exact none_ne e | cases e
    | 2, .bi _ :: _, _, e => first | exact none_ne e | cases e
    | 2, .fn _ :: _, _, e => first | exact none_ne e | cases e
    | 2, .set _ :: _, _, e => first | exact none_ne e | cases e
    | 2, .scr :: _, _, e => first | exact none_ne e | cases e
    | 2, .obj _ :: _, _, e => first | exact none_ne e | cases e
    | 2, .int _ _ :: _ :: _, _, e => first | exact none_ne e | cases e
    | 0, _, _, e => first | exact none_ne e | cases e
    | 1, _, _, e => first | exact none_ne e | cases e
    | _ + 3, _, _, e => first | exact none_ne e | cases e
  | _ => first | exact none_ne e | cases e

theorem appS_eq {name : Str} (e : sEqB name appS = true) : name = ("append" : Str) := sEqB_iff.mp e

theorem snd_call (S : SF C) (hn : 40 ≤ n) (hN : N ≤ n) (hO : OSnd C orc N) (hih : Snd C n ih) {g : Expr} {as : List Expr} {ks : List Keyword} {p : Pos} (e : stE C.ns orc ih f (.Call g as ks p) σ = some (r, σ')) : Mean C (n + 1) (.e f (.Call g as ks p)) σ r σ' := by
  cases ks with
  | cons _ _ => first | exact none_ne e | cases e
  | nil =>
    have plain : (toE (ih (.e f g) σ) fun a σ => toVs (ih (.es f as) σ) fun vs σ => applyV orc ih a vs σ) = some (r, σ') → (∀ env, eval (.Call g as [] p) env = (do callWith p (← eval g env) [] (backTo p (starEach as env)) (backToKw p (keywordEach [] env)))) → Mean C (n + 1) (.e f (.Call g as [] p)) σ r σ' := by
      intro e hg
      obtain ⟨a, σ1, e1, e⟩ := toE_some e
      obtain ⟨vs, σ2, e2, e⟩ := toVs_some e
      cases r with
      | v v =>
        intro env A ρ h tk Q hA R F hQ
        refine Call_ (hih _ _ _ _ e1 env A ρ h tk _ (hA.less (Nat.le_succ n)) R F fun ρ1 h1 tk1 u1 K1 R1 q1 => ?_) (hg env)
        exact snd_apply S hn hN hO hih e2 e hA R1 (F.kx R K1) q1 (hQ.after K1)
      | _ => trivial
    cases g with
    | Attribute o name ap =>
      simp only [stE] at e
      split at e
      · rename_i hname
        have hname' := appS_eq hname
        subst hname'
        match as, e with
        | [], e => first | exact none_ne e | cases e
        | _ :: _ :: _, e => first | exact none_ne e | cases e
        | [y], e =>
          simp only at e
          split at e
          · first | exact none_ne e | cases e
          · rename_i hst
            split at e
            · first | exact none_ne e | cases e
            · rename_i hnm
              split at e
              · first | exact none_ne e | cases e
              · rename_i hl
                have hl' := Nat.eq_of_beq_eq_true hl
                obtain ⟨a, σ1, e1, e⟩ := toE_some e
                cases a with
                | obj k =>
                  simp only at e
                  split at e
                  · rename_i xs hxs
                    obtain ⟨v, σ2, e2, e3⟩ := toE_some e
                    clear e
                    cases o with
                    | Name id po =>
                      have hty : ∀ {env : Env}, backTo p (starEach [y] env) = [(false, eval y env)] := by
                        intro env
                        rw [starEach_plain hst]
                        rfl
                      cases r with
                      | v rv =>
                        intro env A ρ h tk Q hA R F hQ
                        refine wpAny_Call_append rfl (by rw [hty]; rfl) (by rw [hl']; exact beq_self_eq_true _) hty ?_
                        refine hih _ _ _ _ e1 env A ρ h tk _ (hA.less (Nat.le_succ n)) R F fun ρ1 h1 tk1 u1 K1 R1 q1 => ?_
                        obtain ⟨D, vs, m, rfl, ed, ho, _⟩ := R1.list hxs q1
                        refine ⟨D, _, rfl, ⟨_, m, ho, rfl, rfl, rfl⟩, ?_⟩
                        refine hih _ _ _ _ e2 env A ρ1 h1 tk1 _ (hA.less (Nat.le_succ n)) R1 (F.kx R K1) fun ρ2 h2 tk2 u2 K2 R2 q2 => ?_
                        obtain ⟨σ3, er, m3⟩ := snd_append (A := A) (tk := tk2) e3 R2 (pre_get K2.pre ed) q2
                        cases er
                        exact m3 Q fun h' K' R' => hQ ρ2 h' tk2 _ ((K1.trans K2).trans K') R' rfl
                      | _ => trivial
                    | _ => cases hnm
                  · first | exact none_ne e | cases e
                | _ => first | exact none_ne e | cases e
      · first | exact none_ne e | cases e
    | _ => exact plain e fun env => rfl
end
end Mine
set_option maxRecDepth 100000
open PySem PySem.W PyProof.Rows
namespace Mine
section
variable {C : Cx} {n : Nat} {orc : Orc} {ih : EvT} {f f1 : AF} {σ σ1 σ' : H} {r : Res} {ρ ρ' : List Addr} {h h' : Heap} {tk : Nat} {A : Around} {env : Env} {src : Src} {i : Nat} {I : Addr} {fp : List Addr}

theorem ItR.fields (T : ItR C ρ src i I fp h) : ∀ b ∈ fp, ∃ o xs, h.get? b = some o ∧ o.data = .fields xs := by
  obtain ⟨_, T⟩ := T
  intro b hb
  cases src with
  | rng a m =>
    obtain ⟨rfl, hI, _⟩ := T
    rw [List.mem_singleton.mp hb]
    exact ⟨_, _, hI, rfl⟩
  | lst k =>
    obtain ⟨rfl, l, _, o, ho, _, hd⟩ := T
    rw [List.mem_singleton.mp hb]
    exact ⟨_, _, ho, hd⟩
  | enu k =>
    obtain ⟨l, it, old, rfl, _, he, ⟨o, ho, _, hd⟩, _⟩ := T
    rcases List.mem_cons.mp hb with rfl | hb
    · exact ⟨_, _, he, rfl⟩
    · rw [List.mem_singleton.mp hb]
      exact ⟨_, _, ho, hd⟩
  | byt l =>
    obtain ⟨rfl, t, o, ho, _, hd⟩ := T
    rw [List.mem_singleton.mp hb]
    exact ⟨_, _, ho, hd⟩
theorem ItR.move (T : ItR C ρ src i I fp h) (hp : ρ <+: ρ') (hk : ∀ b ∈ fp, ∀ o, h.get? b = some o → h'.get? b = some o) : ItR C ρ' src i I fp h' := by
  obtain ⟨hf, T⟩ := T
  refine ⟨hf, ?_⟩
  cases src with
  | rng a m =>
    obtain ⟨rfl, hI, hi⟩ := T
    exact ⟨rfl, hk _ (List.mem_singleton.mpr rfl) _ hI, hi⟩
  | lst k =>
    obtain ⟨rfl, l, hl, o, ho, r⟩ := T
    exact ⟨rfl, l, pre_get hp hl, o, hk _ (List.mem_singleton.mpr rfl) _ ho, r⟩
  | enu k =>
    obtain ⟨l, it, old, rfl, hl, he, ⟨o, ho, r⟩, hne⟩ := T
    exact ⟨l, it, old, rfl, pre_get hp hl, hk _ List.mem_cons_self _ he, ⟨o, hk _ (List.mem_cons_of_mem _ (List.mem_singleton.mpr rfl)) _ ho, r⟩, hne⟩
  | byt l =>
    obtain ⟨rfl, t, o, ho, r⟩ := T
    exact ⟨rfl, t, o, hk _ (List.mem_singleton.mpr rfl) _ ho, r⟩
theorem FR.own_data (F : FR C ρ f env h) {b : Addr} (hb : Own f env b) : ∃ o, h.get? b = some o ∧ ∀ xs, o.data ≠ .fields xs := by
  rcases hb with rfl | ⟨x, j, e, hc⟩
  · obtain ⟨m, ⟨o, es, k, ho, hd, _⟩, _⟩ := F.loc
    exact ⟨o, ho, fun xs e => by rw [hd] at e; cases e⟩
  · obtain ⟨c, vo, e', ⟨o, ho, hd⟩, _⟩ := F.cel x j .cell e (.inl rfl)
    rw [hc] at e'; cases e'
    exact ⟨o, ho, fun xs e => by rw [hd] at e; cases e⟩
theorem ItR.apart (T : ItR C ρ src i I fp h) (R : RR C ρ σ h) (F : FR C ρ f env h) : ∀ b ∈ fp, b ∉ ρ ∧ ¬ Own f env b := by
  intro b hb
  obtain ⟨o, xs, ho, hd⟩ := T.fields b hb
  refine ⟨R.not_mem ho (fun items k e => by rw [hd] at e; cases e), fun hO => ?_⟩
  obtain ⟨o', ho', hn⟩ := F.own_data hO
  rw [ho] at ho'; cases ho'
  exact hn _ hd
/-- the iterator over a stretch that turns but the frame -/
theorem ItR.over (T : ItR C ρ src i I fp h) (R : RR C ρ σ h) (F : FR C ρ f env h) (K : Kx (Own' f env []) ρ ρ' h h') : ItR C ρ' src i I fp h' :=
  T.move K.pre fun b hb o e => K.keep b o (T.apart R F b hb).1 (fun hP => by
    rcases hP with hP | hP
    · exact (T.apart R F b hb).2 hP
    · cases hP) e
/-- a stretch that turns but the iterator -/
theorem ItR.step (T : ItR C ρ src i I fp h) (R : RR C ρ σ h) (F : FR C ρ f env h) (hk : ∀ b o, b ∉ fp → h.get? b = some o → h'.get? b = some o) : Kx (Own' f env fp) ρ ρ h h' ∧ RR C ρ σ h' ∧ FR C ρ f env h' := by
  refine ⟨⟨List.prefix_refl _, fun _ q => .inl q, fun b o hP e => ⟨o, hk b o (fun hb => hP (.inr hb)) e⟩, fun b o _ hP e => hk b o (fun hb => hP (.inr hb)) e⟩, R.keep fun b o hb e => hk b o (fun hm => ?_) e, ?_⟩
  · rcases hb with hb | hb
    · exact hb (T.1 b hm)
    · exact (T.apart R F b hm).1 hb
  · refine F.move (List.prefix_refl _) (fun o e => hk _ o (fun hm => (T.apart R F _ hm).2 (.inl rfl)) e) fun x j k c e hkc hc o ho => hk c o (fun hm => ?_) ho
    obtain ⟨o', xs, ho', hd⟩ := T.fields c hm
    obtain ⟨c', vo, e', ⟨o'', ho'', hd''⟩, _⟩ := F.cel x j k e hkc
    rw [hc] at e'; cases e'
    rw [ho'] at ho''; cases ho''
    rw [hd] at hd''; cases hd''

theorem letOwned_skip {tgt : Expr} {v : Value} {s : Shared} {o : Obj} {vs : Array Value} {T : String} {P : Unit → Shared → Prop} (ho : s.heap.get? I = some o) (hc : o.cls = .type T) (hd : o.data = .fields vs)
    (hT : ["enumerate", "zip", "dict_itemiterator", "dict_reverseitemiterator", "odict_iterator", "itertools.zip_longest", "itertools.pairwise"].contains T = false) (hP : P () s) :
    wpAny (model pw C.w) A (letOwnedTupleGo tgt (.ref I) v) P (fun _ _ => False) s := by
  have go : wpAny (model pw C.w) A (do
      let (.ref r, .ref a) := ((.ref I : Value), v) | return
      let o ← load r
      match o.cls, o.data with
      | .type n, .fields vs =>
        if ["enumerate", "zip", "dict_itemiterator", "dict_reverseitemiterator", "odict_iterator", "itertools.zip_longest", "itertools.pairwise"].contains n && vs[0]? == some (rawInt a) then
          rule "for.unpacks-the-owned-tuple"
          updateField r 0 .none
      | _, _ => pure ()) P (fun _ _ => False) s := by
    cases v with
    | ref a =>
      refine wpAny_bind (wpAny_load ho ?_)
      rw [hc, hd]
      simp only [hT, Bool.false_and]
      exact wpAny_pure hP
    | _ => exact wpAny_pure hP
  unfold letOwnedTupleGo
  split
  · exact go
  · exact go
  · exact wpAny_pure hP

theorem snd_turn_none (hh : A.handled = none) (e : srcAt σ src i = some none) (T : ItR C ρ src i I fp h) (R : RR C ρ σ h) (F : FR C ρ f env h) {Q : Option Value → Shared → Prop}
    (hQ : ∀ h' tk', Kx (Own' f env fp) ρ ρ h h' → RR C ρ σ h' → FR C ρ f env h' → Q none (C.st h' tk')) : WP C A (pyNext (.ref I)) Q h tk := by
  have T0 := T
  have fin : ∀ h' tk', Heap.ExtBut I h h' → I ∈ fp → Q none (C.st h' tk') := fun h' tk' hx hI => by
    obtain ⟨K, R', F'⟩ := T0.step R F fun b o hb e => hx b o (fun eb => hb (eb ▸ hI)) e
    exact hQ h' tk' K R' F'
  obtain ⟨_, T⟩ := T
  cases src with
  | rng a m =>
    obtain ⟨rfl, hI, hi⟩ := T
    simp only [srcAt] at e
    split at e
    · first | exact none_ne e | cases e
    · rename_i hlt
      have hlt' : ¬ i < m := fun hl => by rw [Nat.blt_eq.mpr hl] at hlt; cases hlt
      exact wpAny_pyNext_range_end (s := C.st h tk) hh hI (by omega) fun h' hx => fin h' tk hx (List.mem_singleton.mpr rfl)
  | lst k =>
    obtain ⟨rfl, l, hl, hit⟩ := T
    simp only [srcAt] at e
    split at e
    · rename_i xs hxs
      split at e
      · first | exact none_ne e | cases e
      · rename_i hx
        obtain ⟨a, vs, m, ea, _, ho, q⟩ := R.list hxs ⟨l, hl, rfl⟩
        cases ea
        refine wpAny_pyNext_list_end (s := C.st h tk) hh hit (isList_of ho) ?_ fun h' hx => fin h' tk hx (List.mem_singleton.mpr rfl)
        have := q.length
        rw [List.getElem?_eq_none_iff] at hx
        simp; omega
    · first | exact none_ne e | cases e
  | enu k =>
    obtain ⟨l, it, old, rfl, hl, he, hit, hne⟩ := T
    simp only [srcAt] at e
    split at e
    · rename_i xs hxs
      split at e
      · first | exact none_ne e | cases e
      · rename_i hx
        obtain ⟨a, vs, m, ea, _, ho, q⟩ := R.list hxs ⟨l, hl, rfl⟩
        cases ea
        refine wpAny_pyNext_enum_end (s := C.st h tk) hh he hit (isList_of ho) ?_ fun h' hx => ?_
        · have := q.length
          rw [List.getElem?_eq_none_iff] at hx
          simp; omega
        · obtain ⟨K, R', F'⟩ := T0.step R F fun b o hb e => hx b o (fun eb => hb (eb ▸ List.mem_cons_of_mem _ (List.mem_singleton.mpr rfl))) e
          exact hQ h' tk K R' F'
    · first | exact none_ne e | cases e
  | byt l =>
    obtain ⟨rfl, t, hit⟩ := T
    simp only [srcAt] at e
    split at e
    · first | exact none_ne e | cases e
    · rename_i hx
      exact KBw.next_end (s := C.st h tk) hh hit (by simpa using hx) fun h' hx => fin h' tk hx (List.mem_singleton.mpr rfl)

theorem snd_turn_some (hih : Snd C n ih) (hA : AOk n A) {it : Item} {tgt : Expr} (e : srcAt σ src i = some (some it)) (ea : asItem ih f tgt it σ = some (.f f1, σ1)) (T : ItR C ρ src i I fp h) (R : RR C ρ σ h) (F : FR C ρ f env h)
    {Q : Shared → Prop} (hQ : ∀ ρ' h' tk', Kx (Own' f env fp) ρ ρ' h h' → RR C ρ' σ1 h' → FR C ρ' f1 env h' → ItR C ρ' src (i + 1) I fp h' → Q (C.st h' tk')) :
    f1.names = f.names ∧ WP C A (pyNext (.ref I)) (fun r s₁ => ∃ v, r = some v ∧ wpAny (model pw C.w) A (letOwnedTupleGo tgt (.ref I) v) (fun _ s₂ => wpAny (model pw C.w) A (assign tgt env v) (fun _ s₃ => Q s₃) (fun _ _ => False) s₂) (fun _ _ => False) s₁) h tk := by
  have T0 := T
  -- after the item: assign
  have fin1 : ∀ {v : AV} {u : Value} {h1 : Heap} {tk1 : Nat}, ih (.as f tgt v) σ = some (.f f1, σ1) → VR C ρ v u → (∀ b o, b ∉ fp → h.get? b = some o → h1.get? b = some o) → ItR C ρ src (i + 1) I fp h1 →
      WP C A (assign tgt env u) (fun _ s₃ => Q s₃) h1 tk1 := by
    intro v u h1 tk1 ea q hk T1
    obtain ⟨hnm, m⟩ := hih _ _ _ _ ea
    obtain ⟨K, R1, F1⟩ := T0.step R F hk
    refine m env A ρ h1 tk1 _ u hA R1 F1 q fun ρ2 h2 tk2 K2 R2 F2 => ?_
    exact hQ ρ2 h2 tk2 (K.trans (K2.mono fun b hb => hb.imp id fun x => nomatch x)) R2 F2 (T1.over R1 F1 K2)
  obtain ⟨hfr, T⟩ := T
  cases src with
  | rng a m =>
    obtain ⟨rfl, hI, hi⟩ := T
    simp only [srcAt] at e
    split at e
    · rename_i hlt
      have hlt' : i < m := Nat.blt_eq.mp hlt
      cases e
      refine ⟨(hih _ _ _ _ ea).1, ?_⟩
      refine wpAny_pyNext_range_item (s := C.st h tk) hI (by omega) fun h' hI' hs => ⟨_, rfl, ?_⟩
      refine letOwned_skip (I := I) hI' rfl rfl (by decide +kernel) ?_
      refine fin1 ea (VR.any) (fun b o hb e => hs.extBut b o (fun eb => hb (eb ▸ List.mem_singleton.mpr rfl)) e) ⟨hfr, rfl, ?_, hlt'⟩
      have e1 : a + (i : Int) + 1 = a + ((i + 1 : Nat) : Int) := by omega
      have e2 : ((m : Int) - (i : Int)) - 1 = (m : Int) - ((i + 1 : Nat) : Int) := by omega
      rw [← e1, ← e2]
      exact hI'
    · first | exact none_ne e | cases e
  | lst k =>
    obtain ⟨rfl, l, hl, hit⟩ := T
    simp only [srcAt] at e
    split at e
    · rename_i xs hxs
      split at e
      · rename_i v hx
        cases e
        refine ⟨(hih _ _ _ _ ea).1, ?_⟩
        obtain ⟨a, vs, m, eA, _, ho, q⟩ := R.list hxs ⟨l, hl, rfl⟩
        cases eA
        obtain ⟨u, eu, qu⟩ := q.get hx
        refine wpAny_pyNext_list_item (s := C.st h tk) hit (isList_of ho) (by simpa using eu) fun h' hI' hs => ⟨_, rfl, ?_⟩
        have hI0 := hI'
        obtain ⟨o', ho', hc', hd'⟩ := hI0
        refine letOwned_skip (I := I) ho' hc' hd' (by decide +kernel) ?_
        exact fin1 ea qu (fun b o hb e => hs.extBut b o (fun eb => hb (eb ▸ List.mem_singleton.mpr rfl)) e) ⟨hfr, rfl, l, hl, hI'⟩
      · first | exact none_ne e | cases e
    · first | exact none_ne e | cases e
  | enu k =>
    obtain ⟨l, itA, old, rfl, hl, he, hit, hne⟩ := T
    simp only [srcAt] at e
    split at e
    · rename_i xs hxs
      split at e
      · rename_i v hx
        cases e
        obtain ⟨hnm, ⟨elts, kk, pp, rfl⟩, m⟩ := hih _ _ _ _ ea
        refine ⟨hnm, ?_⟩
        obtain ⟨a, vs, mm, eA, _, ho, q⟩ := R.list hxs ⟨l, hl, rfl⟩
        cases eA
        obtain ⟨u, eu, qu⟩ := q.get hx
        refine wpAny_pyNext_enum_item (s := C.st h tk) he hit (isList_of ho) (by simpa using eu) hne fun h1 he1 hit1 htup hsz hk1 => ⟨_, rfl, ?_⟩
        refine wpAny_letOwnedTupleGo_enum he1 fun h2 he2 hs2 => ?_
        have hIlt : I < h.objs.size := Heap.lt_size he
        have hitlt : itA < h.objs.size := by obtain ⟨o, ho, _⟩ := hit; exact Heap.lt_size ho
        have hk : ∀ b o, b ∉ [I, itA] → h.get? b = some o → h2.get? b = some o := fun b o hb e => by
          have h1' : b ≠ I := fun eb => hb (eb ▸ List.mem_cons_self)
          have h2' : b ≠ itA := fun eb => hb (eb ▸ List.mem_cons_of_mem _ (List.mem_singleton.mpr rfl))
          exact hs2.extBut b o h1' (hk1 b o h1' h2' e)
        obtain ⟨K, R1, F1⟩ := T0.step R F hk
        have T1 : ItR C ρ (.enu k) (i + 1) I [I, itA] h2 := ⟨hfr, l, itA, u, rfl, hl, he2, hit1.extBut hs2.extBut (Ne.symm hne), hne⟩
        have ht2 : h2.get? h.objs.size = some (tupO #[.int (i : Int) tk, u] 0) := hs2.extBut _ _ (Nat.ne_of_gt hIlt) htup
        refine m env A ρ h2 _ _ h.objs.size u tk 0 hA R1 F1 qu ht2 fun ρ3 h3 tk3 K3 R3 F3 => ?_
        exact hQ ρ3 h3 tk3 (K.trans (K3.mono fun b hb => hb.imp id fun x => nomatch x)) R3 F3 (T1.over R1 F1 K3)
      · first | exact none_ne e | cases e
    · first | exact none_ne e | cases e
  | byt l =>
    obtain ⟨rfl, t, hit⟩ := T
    simp only [srcAt] at e
    split at e
    · rename_i c hx
      cases e
      refine ⟨(hih _ _ _ _ ea).1, ?_⟩
      refine KBw.next_item (s := C.st h tk) (c := c) hit (by simpa using hx) fun h' hI' hs => ⟨_, rfl, ?_⟩
      have hI0 := hI'
      obtain ⟨o', ho', hc', hd'⟩ := hI0
      refine letOwned_skip (I := I) ho' hc' hd' (by decide +kernel) ?_
      exact fin1 ea VR.any (fun b o hb e => hs.extBut b o (fun eb => hb (eb ▸ List.mem_singleton.mpr rfl)) e) ⟨hfr, rfl, t, hI'⟩
    · first | exact none_ne e | cases e
end
end Mine
set_option maxRecDepth 100000
open PySem PySem.W PyProof.Rows
namespace Mine
section
variable {C : Cx} {n : Nat} {orc : Orc} {ih : EvT} {f f1 : AF} {σ σ1 σ' : H} {r : Res} {ρ ρ' : List Addr} {h h' : Heap} {tk : Nat} {A : Around} {env : Env}

theorem code_for {tgt : Expr} {it : Value} {body : List Stmt} {R : Flow → Shared → Prop}
    (ht : WP C A (pyNext it) (fun r s₁ => (r = none ∧ R .next s₁) ∨ ∃ v, r = some v ∧ wpAny (model pw C.w) A (letOwnedTupleGo tgt it v) (fun _ s₂ => wpAny (model pw C.w) A (assign tgt env v) (fun _ s₃ =>
      wpAny (model pw C.w) A (execs body env) (fun f s₄ => match f with
        | .next | .cont => codeAny (model pw C.w) A (.forLoop tgt it body [] env) (noRaise R) s₄
        | .brk => R .next s₄
        | .ret v => R (.ret v) s₄) (fun _ _ => False) s₃) (fun _ _ => False) s₂) (fun _ _ => False) s₁) h tk) : codeAny (model pw C.w) A (.forLoop tgt it body [] env) (noRaise R) (C.st h tk) := by
  refine codeAny_loop' rfl (fun _ s => s = C.st h tk) (fun k s hs => ?_) 0 rfl
  subst hs
  show wpAny _ A ((forTurn tgt it body [] env).onRaise (fun x => do noteFrame x env; theTreesLotGoes x)) _ _ _
  refine wpAny_noted ?_
  simp only [forTurn]
  refine wpAny_bind (wpAny_standAt (wpAny_bind (wpAny_onRaise (wpAny_mono ht (fun r s₁ h₁ => ?_) fun _ _ h' => h'.elim))))
  rcases h₁ with ⟨rfl, hR⟩ | ⟨v, rfl, h₁⟩
  · exact wpAny_pure (.inr ⟨rfl, codeAny_block (wpAny_execs_nil hR)⟩)
  · refine wpAny_bind (wpAny_mono h₁ (fun _ s₁' h₁' => ?_) fun _ _ h' => h'.elim)
    refine wpAny_bind (wpAny_mono h₁' (fun _ s₂ h₂ => wpAny_bind (wpAny_mono h₂ (fun f s₃ h₃ => ?_) fun _ _ h' => h'.elim)) fun _ _ h' => h'.elim)
    cases f with
    | next => exact wpAny_pure (.inr ⟨rfl, h₃⟩)
    | cont => exact wpAny_pure (.inr ⟨rfl, h₃⟩)
    | brk => exact wpAny_pure h₃
    | ret v => exact wpAny_pure h₃

theorem code_while {test : Expr} {body : List Stmt} {R : Flow → Shared → Prop}
    (ht : WP C A (isTrue test env (eval test env)) (fun b s₁ => match b with
      | false => R .next s₁
      | true => wpAny (model pw C.w) A (execs body env) (fun f s₄ => match f with
        | .next | .cont => codeAny (model pw C.w) A (.whileLoop test body [] env) (noRaise R) s₄
        | .brk => R .next s₄
        | .ret v => R (.ret v) s₄) (fun _ _ => False) s₁) h tk) : codeAny (model pw C.w) A (.whileLoop test body [] env) (noRaise R) (C.st h tk) := by
  refine codeAny_loop' rfl (fun _ s => s = C.st h tk) (fun k s hs => ?_) 0 rfl
  subst hs
  show wpAny _ A ((whileTurn test body [] env).onRaise (fun x => do noteFrame x env; theTreesLotGoes x)) _ _ _
  refine wpAny_noted ?_
  simp only [whileTurn]
  refine wpAny_bind (wpAny_mono ht (fun b s₁ h₁ => ?_) fun _ _ h' => h'.elim)
  cases b with
  | false => exact wpAny_bind (wpAny_execs_nil (wpAny_pure h₁))
  | true =>
    refine wpAny_bind (wpAny_mono h₁ (fun f s₃ h₃ => ?_) fun _ _ h' => h'.elim)
    cases f with
    | next => exact wpAny_pure (.inr ⟨rfl, h₃⟩)
    | cont => exact wpAny_pure (.inr ⟨rfl, h₃⟩)
    | brk => exact wpAny_pure h₃
    | ret v => exact wpAny_pure h₃

/-- the codes of a statement's own loop -/
theorem noRaise_any {Q : Flow → Shared → Prop} {r : Result} {s : Shared} (x : noRaise Q r s) (env : Env) : match r with | .ok f => Q f s | .error e => cameBackBy (model pw C.w) A env (fun _ _ => False) e s := by
  cases r with
  | ok f => exact x
  | error e => exact x.elim

theorem snd_stFo (hih : Snd C n ih) {tgt : Expr} {src : Src} {i : Nat} {body : List Stmt} (e : stFo ih f tgt src i body σ = some (r, σ')) : Mean C (n + 1) (.fo f tgt src i body) σ r σ' := by
  simp only [stFo] at e
  split at e
  · first | exact none_ne e | cases e
  · rename_i hs
    obtain ⟨rfl, rfl⟩ := some_pair e
    refine ⟨rfl, fun env A ρ h tk Q I fp hA R F T hQ => code_for (snd_turn_none hA.handled hs T R F fun h' tk' K R' F' => .inl ⟨rfl, ?_⟩)⟩
    exact hQ ρ h' tk' _ K R' F' rfl
  · rename_i it hs
    obtain ⟨f1, σ1, e1, e⟩ := toF_some e
    obtain ⟨f2, w, σ2, e2, e⟩ := toFl_some e
    obtain ⟨hn2, m2⟩ := hih _ _ _ _ e2
    cases r with
    | fl f' w' =>
      have hn1 : f1.names = f.names := by
        cases it with
        | one v => exact (hih _ _ _ _ e1).1
        | two i v => exact (hih _ _ _ _ e1).1
      -- after the body
      have body : ∀ (env : Env) A ρ h tk Q I fp, AOk (n + 1) A → RR C ρ σ h → FR C ρ f env h → ItR C ρ src i I fp h → PS C ρ σ' h f f' w' env fp Q →
          (∀ ρ3 h3 tk3 fl, Kx (Own' f env fp) ρ ρ3 h h3 → RR C ρ3 σ2 h3 → FR C ρ3 f2 env h3 → ItR C ρ3 src (i + 1) I fp h3 → FlR C ρ3 w fl → match fl with
            | .next | .cont => codeAny (model pw C.w) A (.forLoop tgt (.ref I) body [] env) (noRaise Q) (C.st h3 tk3)
            | .brk => Q .next (C.st h3 tk3)
            | .ret v => Q (.ret v) (C.st h3 tk3)) →
          codeAny (model pw C.w) A (.forLoop tgt (.ref I) body [] env) (noRaise Q) (C.st h tk) := by
        intro env A ρ h tk Q I fp hA R F T hQ hB
        have hA' := hA.less (Nat.le_succ n)
        refine code_for (wpAny_mono (snd_turn_some hih hA' hs e1 T R F (Q := fun s₃ => wpAny (model pw C.w) A (execs body env) (fun f s₄ => match f with
          | .next | .cont => codeAny (model pw C.w) A (.forLoop tgt (.ref I) body [] env) (noRaise Q) s₄
          | .brk => Q .next s₄
          | .ret v => Q (.ret v) s₄) (fun _ _ => False) s₃) fun ρ2 h2 tk2 K2 R2 F2 T2 => ?_).2 (fun r s₁ hr => .inr hr) fun _ _ x => x)
        refine m2 env A ρ2 h2 tk2 _ hA' R2 F2 fun ρ3 h3 tk3 fl K3 R3 F3 q3 => ?_
        have K3' : Kx (Own' f env []) ρ2 ρ3 h2 h3 := K3.mono fun b hb => Own'.congr hn1 hb
        have T3 := T2.over R2 F2 K3
        exact hB ρ3 h3 tk3 fl (K2.trans (K3'.mono fun b hb => hb.imp id fun x => nomatch x)) R3 F3 T3 q3
      cases w with
      | next =>
        obtain ⟨hn3, m3⟩ := hih _ _ _ _ e
        refine ⟨hn3.trans (hn2.trans hn1), fun env A ρ h tk Q I fp hA R F T hQ => body env A ρ h tk Q I fp hA R F T hQ fun ρ3 h3 tk3 fl K3 R3 F3 T3 q3 => ?_⟩
        cases q3
        exact m3 env A ρ3 h3 tk3 _ I fp (hA.less (Nat.le_succ n)) R3 F3 T3 ((hQ.after K3).names (hn2.trans hn1))
      | cont =>
        obtain ⟨hn3, m3⟩ := hih _ _ _ _ e
        refine ⟨hn3.trans (hn2.trans hn1), fun env A ρ h tk Q I fp hA R F T hQ => body env A ρ h tk Q I fp hA R F T hQ fun ρ3 h3 tk3 fl K3 R3 F3 T3 q3 => ?_⟩
        cases q3
        exact m3 env A ρ3 h3 tk3 _ I fp (hA.less (Nat.le_succ n)) R3 F3 T3 ((hQ.after K3).names (hn2.trans hn1))
      | brk =>
        (obtain ⟨e, rfl⟩ := some_pair e; cases e)
        refine ⟨hn2.trans hn1, fun env A ρ h tk Q I fp hA R F T hQ => body env A ρ h tk Q I fp hA R F T hQ fun ρ3 h3 tk3 fl K3 R3 F3 T3 q3 => ?_⟩
        cases q3
        exact hQ ρ3 h3 tk3 _ K3 R3 F3 rfl
      | ret v =>
        (obtain ⟨e, rfl⟩ := some_pair e; cases e)
        refine ⟨hn2.trans hn1, fun env A ρ h tk Q I fp hA R F T hQ => body env A ρ h tk Q I fp hA R F T hQ fun ρ3 h3 tk3 fl K3 R3 F3 T3 q3 => ?_⟩
        obtain ⟨u, rfl, q⟩ := q3
        exact hQ ρ3 h3 tk3 _ K3 R3 F3 ⟨u, rfl, q⟩
    | _ => trivial

theorem snd_stWh (hih : Snd C n ih) {t : Expr} {body : List Stmt} (e : stWh ih f t body σ = some (r, σ')) : Mean C (n + 1) (.wh f t body) σ r σ' := by
  obtain ⟨b, σ1, e1, e⟩ := toB_some e
  cases r with
  | fl f' w' =>
    cases b with
    | false =>
      (obtain ⟨e, rfl⟩ := some_pair e; cases e)
      refine ⟨rfl, fun env A ρ h tk Q hA R F hQ => code_while (hih _ _ _ _ e1 env A ρ h tk _ (hA.less (Nat.le_succ n)) R F fun ρ1 h1 tk1 K1 R1 => ?_)⟩
      exact hQ ρ1 h1 tk1 _ K1.no R1 (F.kx R K1) rfl
    | true =>
      obtain ⟨f2, w, σ2, e2, e⟩ := toFl_some e
      obtain ⟨hn2, m2⟩ := hih _ _ _ _ e2
      have body : ∀ (env : Env) A ρ h tk Q, AOk (n + 1) A → RR C ρ σ h → FR C ρ f env h →
          (∀ ρ3 h3 tk3 fl, Kx (Own' f env []) ρ ρ3 h h3 → RR C ρ3 σ2 h3 → FR C ρ3 f2 env h3 → FlR C ρ3 w fl → match fl with
            | .next | .cont => codeAny (model pw C.w) A (.whileLoop t body [] env) (noRaise Q) (C.st h3 tk3)
            | .brk => Q .next (C.st h3 tk3)
            | .ret v => Q (.ret v) (C.st h3 tk3)) →
          codeAny (model pw C.w) A (.whileLoop t body [] env) (noRaise Q) (C.st h tk) := by
        intro env A ρ h tk Q hA R F hB
        have hA' := hA.less (Nat.le_succ n)
        refine code_while (hih _ _ _ _ e1 env A ρ h tk _ hA' R F fun ρ1 h1 tk1 K1 R1 => ?_)
        refine m2 env A ρ1 h1 tk1 _ hA' R1 (F.kx R K1) fun ρ3 h3 tk3 fl K3 R3 F3 q3 => ?_
        exact hB ρ3 h3 tk3 fl (K1.no.trans K3) R3 F3 q3
      cases w with
      | next =>
        obtain ⟨hn3, m3⟩ := hih _ _ _ _ e
        refine ⟨hn3.trans hn2, fun env A ρ h tk Q hA R F hQ => body env A ρ h tk Q hA R F fun ρ3 h3 tk3 fl K3 R3 F3 q3 => ?_⟩
        cases q3
        exact m3 env A ρ3 h3 tk3 _ (hA.less (Nat.le_succ n)) R3 F3 ((hQ.after K3).names hn2)
      | cont =>
        obtain ⟨hn3, m3⟩ := hih _ _ _ _ e
        refine ⟨hn3.trans hn2, fun env A ρ h tk Q hA R F hQ => body env A ρ h tk Q hA R F fun ρ3 h3 tk3 fl K3 R3 F3 q3 => ?_⟩
        cases q3
        exact m3 env A ρ3 h3 tk3 _ (hA.less (Nat.le_succ n)) R3 F3 ((hQ.after K3).names hn2)
      | brk =>
        (obtain ⟨e, rfl⟩ := some_pair e; cases e)
        refine ⟨hn2, fun env A ρ h tk Q hA R F hQ => body env A ρ h tk Q hA R F fun ρ3 h3 tk3 fl K3 R3 F3 q3 => ?_⟩
        cases q3
        exact hQ ρ3 h3 tk3 _ K3 R3 F3 rfl
      | ret v =>
        (obtain ⟨e, rfl⟩ := some_pair e; cases e)
        refine ⟨hn2, fun env A ρ h tk Q hA R F hQ => body env A ρ h tk Q hA R F fun ρ3 h3 tk3 fl K3 R3 F3 q3 => ?_⟩
        obtain ⟨u, rfl, q⟩ := q3
        exact hQ ρ3 h3 tk3 _ K3 R3 F3 ⟨u, rfl, q⟩
  | _ => trivial

theorem snd_stSs (hih : Snd C n ih) {sts : List Stmt} (e : stSs ih f sts σ = some (r, σ')) : Mean C (n + 1) (.ss f sts) σ r σ' := by
  cases sts with
  | nil =>
    obtain ⟨rfl, rfl⟩ := some_pair e
    exact ⟨rfl, fun env A ρ h tk Q hA R F hQ => wpAny_execs_nil (hQ ρ h tk _ (Kx.refl _ _ _) R F rfl)⟩
  | cons s rest =>
    obtain ⟨f1, w, σ1, e1, e⟩ := toFl_some e
    obtain ⟨hn1, m1⟩ := hih _ _ _ _ e1
    cases r with
    | fl f' w' =>
      cases w with
      | next =>
        obtain ⟨hn2, m2⟩ := hih _ _ _ _ e
        refine ⟨hn2.trans hn1, fun env A ρ h tk Q hA R F hQ => wpAny_execs_cons (m1 env A ρ h tk _ (hA.less (Nat.le_succ n)) R F fun ρ1 h1 tk1 fl K1 R1 F1 q1 => ?_)⟩
        cases q1
        exact m2 env A ρ1 h1 tk1 _ (hA.less (Nat.le_succ n)) R1 F1 ((hQ.after K1).names hn1)
      | brk =>
        (obtain ⟨e, rfl⟩ := some_pair e; cases e)
        refine ⟨hn1, fun env A ρ h tk Q hA R F hQ => wpAny_execs_cons (m1 env A ρ h tk _ (hA.less (Nat.le_succ n)) R F fun ρ1 h1 tk1 fl K1 R1 F1 q1 => ?_)⟩
        cases q1
        exact hQ ρ1 h1 tk1 _ K1 R1 F1 rfl
      | cont =>
        (obtain ⟨e, rfl⟩ := some_pair e; cases e)
        refine ⟨hn1, fun env A ρ h tk Q hA R F hQ => wpAny_execs_cons (m1 env A ρ h tk _ (hA.less (Nat.le_succ n)) R F fun ρ1 h1 tk1 fl K1 R1 F1 q1 => ?_)⟩
        cases q1
        exact hQ ρ1 h1 tk1 _ K1 R1 F1 rfl
      | ret v =>
        (obtain ⟨e, rfl⟩ := some_pair e; cases e)
        refine ⟨hn1, fun env A ρ h tk Q hA R F hQ => wpAny_execs_cons (m1 env A ρ h tk _ (hA.less (Nat.le_succ n)) R F fun ρ1 h1 tk1 fl K1 R1 F1 q1 => ?_)⟩
        obtain ⟨u, rfl, q⟩ := q1
        exact hQ ρ1 h1 tk1 _ K1 R1 F1 ⟨u, rfl, q⟩
    | _ => trivial

theorem ifs_false {env : Env} {A : Around} {s : Shared} {Q : Bool → Shared → Prop} (hQ : Q false s) : ∀ xs : List Expr,
    wpAny (model pw C.w) A (forIn xs false fun c r => if r = true then do let ok ← isTrue c env (eval c env); pure (ForInStep.yield ok) else pure (ForInStep.yield r)) Q (fun _ _ => False) s
  | [] => by
    rw [List.forIn_nil]
    exact wpAny_pure hQ
  | x :: xs => by
    rw [List.forIn_cons]
    rw [if_neg (by decide)]
    exact wpAny_bind (wpAny_pure (ifs_false hQ xs))
theorem snd_stIfs (hih : Snd C n ih) {xs : List Expr} (e : stIfs ih f xs σ = some (r, σ')) : Mean C (n + 1) (.ifs f xs) σ r σ' := by
  cases r with
  | b b =>
    intro env A ρ h tk Q hA R F hQ
    cases xs with
    | nil =>
      (obtain ⟨e, rfl⟩ := some_pair e; cases e)
      rw [List.forIn_nil]
      exact wpAny_pure (hQ.here R)
    | cons x rest =>
      obtain ⟨b1, σ1, e1, e⟩ := toB_some e
      rw [List.forIn_cons]
      rw [if_pos rfl]
      refine wpAny_bind (wpAny_bind (hih _ _ _ _ e1 env A ρ h tk _ (hA.less (Nat.le_succ n)) R F fun ρ1 h1 tk1 K1 R1 => wpAny_pure ?_))
      cases b1 with
      | true => exact hih _ _ _ _ e env A ρ1 h1 tk1 _ (hA.less (Nat.le_succ n)) R1 (F.kx R K1) (hQ.after K1)
      | false => cases e; exact ifs_false (hQ ρ1 h1 tk1 K1 R1) rest
  | _ => trivial
end
end Mine
set_option maxRecDepth 100000
open PySem PySem.W PyProof.Rows
namespace Mine
section
variable {C : Cx} {n : Nat} {orc : Orc} {ih : EvT} {f f1 : AF} {σ σ1 σ' : H} {r : Res} {ρ ρ' : List Addr} {h h' : Heap} {tk : Nat} {A : Around} {env : Env}

theorem callName_some {x : Expr} {g : Str} {args : List Expr} (e : callName x = some (g, args)) : ∃ p q, x = .Call (.Name g p) args [] q := by
  unfold callName at e
  split at e
  · cases e; exact ⟨_, _, rfl⟩
  · first | exact none_ne e | cases e
theorem giveS_some {o : Option Src} {x : Res × H} (e : giveS o σ = some x) : ∃ s, o = some s ∧ x = (.src s, σ) := by
  unfold giveS at e
  split at e
  · cases e; exact ⟨_, rfl, rfl⟩
  · first | exact none_ne e | cases e
theorem fresh_none {h : Heap} {a : Addr} (ha : h.objs.size ≤ a) : h.get? a = none := by
  cases e : h.get? a with
  | none => rfl
  | some o => exact absurd (Heap.lt_size e) (Nat.not_lt.mpr ha)
theorem Kx.none {ρ ρ' : List Addr} (K : Kx NoP ρ ρ' h h') {a : Addr} (e : h'.get? a = none) : h.get? a = none := by
  cases e' : h.get? a with
  | none => rfl
  | some o => obtain ⟨o', e''⟩ := K.life a o (fun x => x) e'; rw [e] at e''; cases e''

theorem folded_other {x : Expr} (e : isSetB x = false) (env : Env) (xv : Value) : foldedSetIterable x env xv = pure xv := by
  cases x <;> first | rfl | cases e

theorem snd_rng {vs : List AV} {s : Src} {us : List Value} (e : rngV vs = some s) (q : VRs C ρ vs us) (R : RR C ρ σ h) {Q : Value → Shared → Prop}
    (hQ : ∀ h' tk' I fp, Kx NoP ρ ρ h h' → RR C ρ σ h' → ItR C ρ s 0 I fp h' → (∀ b ∈ fp, h.get? b = none) → Q (.ref I) (C.st h' tk')) :
    WP C A (call (.type "range") us) (fun xv s₁ => wpAny (model pw C.w) A (pyIter xv) Q (fun _ _ => False) s₁) h tk := by
  have fin : ∀ {a b : Nat} {o : Obj} {tk' : Nat}, a ≤ 1000 → b ≤ 1000 → (∃ t u v, o = { cls := .type "range", data := .fields #[.int (a : Int) t, .int (b : Int) u, .int 1 v] }) → s = .rng (a : Int) (b - a) →
      WP C A (pyIter (.ref h.objs.size)) Q (h.push o) tk' := by
    intro a b o tk' ha hb ho es
    obtain ⟨t, u, v, rfl⟩ := ho
    subst es
    have hsm : Builtin.Range.small (a : Int) (b : Int) 1 = true := small_one (by omega) (by omega) (by omega) (by omega)
    refine wpAny_pyIter_range (s := C.st _ tk') (IsRange.new ..) hsm ?_
    have hk : ∀ b' o', h.get? b' = some o' → ((h.push { cls := .type "range", data := .fields #[.int (a : Int) t, .int (b : Int) u, .int 1 v] }).push { cls := .type "range_iterator", data := .fields #[rawInt a, rawInt (Builtin.Range.rangeSize a b 1), rawInt 1] }).get? b' = some o' :=
      fun b' o' e => push_keep _ _ b' o' (push_keep _ _ b' o' e)
    show Q (.ref (h.push _).objs.size) _
    have hz : (h.push { cls := .type "range", data := .fields #[.int (a : Int) t, .int (b : Int) u, .int 1 v] }).objs.size = h.objs.size + 1 := Heap.size_push ..
    have hI := Heap.get?_push_size (h.push { cls := .type "range", data := .fields #[.int (a : Int) t, .int (b : Int) u, .int 1 v] }) (o := { cls := .type "range_iterator", data := .fields #[rawInt a, rawInt (Builtin.Range.rangeSize a b 1), rawInt 1] }) rfl
    rw [hz] at hI ⊢
    refine hQ _ tk' (h.objs.size + 1) [h.objs.size + 1] (Kx.all _ hk) (R.keepAll hk) ⟨fun b' hb' => ?_, rfl, ?_, Nat.zero_le _⟩ fun b' hb' => ?_
    · rw [List.mem_singleton.mp hb']; exact (R.fresh (Nat.le_succ _)).2
    · have e1 : ((a : Int) + ((0 : Nat) : Int)) = a := by omega
      have e2 : (((b - a : Nat) : Int) - ((0 : Nat) : Int)) = Builtin.Range.rangeSize a b 1 := by rw [rangeSize_one]; split <;> omega
      rw [e1, e2]
      exact hI
    · rw [List.mem_singleton.mp hb']; exact fresh_none (Nat.le_succ _)
  match vs, q, e with
  | [], _, e => first | exact none_ne e | cases e
  | [a], ⟨u, us', eu, qa, qr⟩, e =>
    subst eu; cases qr
    cases a with
    | int i kn =>
      obtain ⟨⟨t, rfl⟩, _⟩ := qa
      cases i with
      | negSucc _ => first | exact none_ne e | cases e
      | ofNat m =>
        simp only [rngV] at e
        split at e
        · rename_i hm
          have hm' := Nat.le_of_ble_eq_true hm
          obtain rfl := some_inj e
          exact call_range_1 (s := C.st h tk) (fin (a := 0) (b := m) (Nat.zero_le _) hm' ⟨_, _, _, rfl⟩ rfl)
        · first | exact none_ne e | cases e
    | _ => first | exact none_ne e | cases e
  | [a, b], ⟨u, us', eu, qa, w, ws, ew, qb, qr⟩, e =>
    subst eu ew; cases qr
    cases a with
    | int i kn =>
      obtain ⟨⟨t, rfl⟩, _⟩ := qa
      cases b with
      | int j kj =>
        obtain ⟨⟨t', rfl⟩, _⟩ := qb
        cases i with
        | negSucc _ => first | exact none_ne e | cases e
        | ofNat x =>
          cases j with
          | negSucc _ => first | exact none_ne e | cases e
          | ofNat y =>
            simp only [rngV] at e
            split at e
            · rename_i hx
              have hx' := Nat.le_of_ble_eq_true hx
              split at e
              · rename_i hy
                have hy' := Nat.le_of_ble_eq_true hy
                obtain rfl := some_inj e
                exact call_range_2 (s := C.st h tk) (fin (a := x) (b := y) hx' hy' ⟨_, _, _, rfl⟩ rfl)
              · first | exact none_ne e | cases e
            · first | exact none_ne e | cases e
      | _ => first | exact none_ne e | cases e
    | _ => first | exact none_ne e | cases e
  | _ :: _ :: _ :: _, _, e => first | exact none_ne e | cases e

theorem snd_enu {vs : List AV} {s : Src} {us : List Value} (e : enuV vs σ = some s) (q : VRs C ρ vs us) (R : RR C ρ σ h) {Q : Value → Shared → Prop}
    (hQ : ∀ h' tk' I fp, Kx NoP ρ ρ h h' → RR C ρ σ h' → ItR C ρ s 0 I fp h' → (∀ b ∈ fp, h.get? b = none) → Q (.ref I) (C.st h' tk')) :
    WP C A (call (.type "enumerate") us) (fun xv s₁ => wpAny (model pw C.w) A (pyIter xv) Q (fun _ _ => False) s₁) h tk := by
  match vs, q, e with
  | [], _, e => first | exact none_ne e | cases e
  | [a], ⟨u, us', eu, qa, qr⟩, e =>
    subst eu; cases qr
    cases a with
    | obj k =>
      simp only [enuV] at e
      split at e
      · rename_i xs hxs
        obtain rfl := some_inj e
        obtain ⟨l, vs, m, rfl, el, ho, q⟩ := R.list hxs qa
        refine call_enumerate_1 (s := C.st h tk) ho fun h' he hit hsz hk => ?_
        have hk' : ∀ b o, h.get? b = some o → h'.get? b = some o := hk
        refine wpAny_pyIter_enum he (hQ h' tk (h.objs.size + 1) [h.objs.size + 1, h.objs.size] (Kx.all _ hk') (R.keepAll hk') ⟨fun b hb => ?_, l, h.objs.size, .none, rfl, el, he, hit, ?_⟩ fun b hb => ?_)
        · rcases List.mem_cons.mp hb with rfl | hb
          · exact (R.fresh (Nat.le_succ _)).2
          · rw [List.mem_singleton.mp hb]; exact (R.fresh (Nat.le_refl _)).2
        · exact Nat.succ_ne_self _
        · rcases List.mem_cons.mp hb with rfl | hb
          · exact fresh_none (Nat.le_succ _)
          · rw [List.mem_singleton.mp hb]; exact fresh_none (Nat.le_refl _)
      · first | exact none_ne e | cases e
    | _ => first | exact none_ne e | cases e
  | _ :: _ :: _, _, e => first | exact none_ne e | cases e

theorem snd_itV {v : AV} {s : Src} {u : Value} (e : itV v σ = some s) (q : VR C ρ v u) (R : RR C ρ σ h) {Q : Value → Shared → Prop}
    (hQ : ∀ h' tk' I fp, Kx NoP ρ ρ h h' → RR C ρ σ h' → ItR C ρ s 0 I fp h' → (∀ b ∈ fp, h.get? b = none) → Q (.ref I) (C.st h' tk')) : WP C A (pyIter u) Q h tk := by
  cases v with
  | obj k =>
    simp only [itV] at e
    split at e
    · rename_i xs hxs
      obtain rfl := some_inj e
      obtain ⟨l, vs, m, rfl, el, ho, q⟩ := R.list hxs q
      refine wpAny_pyIter_list (s := C.st h tk) (isList_of ho) ?_
      refine hQ _ tk h.objs.size [h.objs.size] (Kx.all _ (push_keep _ _)) (R.keepAll (push_keep _ _)) ⟨fun b hb => ?_, rfl, l, el, ⟨_, Heap.get?_push_size _ rfl, rfl, rfl⟩⟩ fun b hb => ?_
      · rw [List.mem_singleton.mp hb]; exact (R.fresh (Nat.le_refl _)).2
      · rw [List.mem_singleton.mp hb]; exact fresh_none (Nat.le_refl _)
    · first | exact none_ne e | cases e
  | bytes l m =>
    simp only [itV] at e
    split at e
    · obtain rfl := some_inj e
      obtain ⟨⟨t, rfl⟩, _⟩ := q
      refine KBw.pyIter_bytes (s := C.st h tk) ?_
      refine hQ _ tk h.objs.size [h.objs.size] (Kx.all _ (push_keep _ _)) (R.keepAll (push_keep _ _)) ⟨fun b hb => ?_, rfl, t, ⟨_, Heap.get?_push_size _ rfl, rfl, rfl⟩⟩ fun b hb => ?_
      · rw [List.mem_singleton.mp hb]; exact (R.fresh (Nat.le_refl _)).2
      · rw [List.mem_singleton.mp hb]; exact fresh_none (Nat.le_refl _)
    · first | exact none_ne e | cases e
  | _ => first | exact none_ne e | cases e

theorem snd_stIt (S : SF C) (hih : Snd C n ih) {x : Expr} (e : stIt ih f x σ = some (r, σ')) : Mean C (n + 1) (.it f x) σ r σ' := by
  cases r with
  | src s =>
    simp only [stIt] at e
    split at e
    · rename_i g args hcn
      obtain ⟨p, q, rfl⟩ := callName_some hcn
      refine ⟨fun env xv => rfl, fun env A ρ h tk Q hA R F hQ => ?_⟩
      have hA' := hA.less (Nat.le_succ n)
      split at e
      · rename_i k hg
        split at e
        · obtain ⟨vs, σ1, e1, e⟩ := toVs_some e
          obtain ⟨s', e2, e⟩ := giveS_some e
          cases e
          refine Call_ (snd_getVar S R F hg fun u qu => ?_)
          cases qu
          refine PyProof.Rows.callWith_type (back_plain (hih _ _ _ _ e1).1) (evalArgs_of (hih _ _ _ _ e1).1 (snd_seq hih e1 hA' R F fun ρ1 h1 tk1 us K1 R1 q1 => ?_))
          exact snd_rng e2 q1 R1 fun h' tk' I fp K R' T hfp => hQ ρ1 h' tk' I fp (K1.trans K) R' T fun b hb => K1.none (hfp b hb)
        · obtain ⟨vs, σ1, e1, e⟩ := toVs_some e
          obtain ⟨s', e2, e⟩ := giveS_some e
          cases e
          refine Call_ (snd_getVar S R F hg fun u qu => ?_)
          cases qu
          refine PyProof.Rows.callWith_type (back_plain (hih _ _ _ _ e1).1) (evalArgs_of (hih _ _ _ _ e1).1 (snd_seq hih e1 hA' R F fun ρ1 h1 tk1 us K1 R1 q1 => ?_))
          exact snd_enu e2 q1 R1 fun h' tk' I fp K R' T hfp => hQ ρ1 h' tk' I fp (K1.trans K) R' T fun b hb => K1.none (hfp b hb)
        · first | exact none_ne e | cases e
      · first | exact none_ne e | cases e
    · split at e
      · first | exact none_ne e | cases e
      · rename_i hst
        obtain ⟨v, σ1, e1, e⟩ := toE_some e
        obtain ⟨s', e2, e⟩ := giveS_some e
        cases e
        refine ⟨folded_other hst, fun env A ρ h tk Q hA R F hQ => ?_⟩
        refine hih _ _ _ _ e1 env A ρ h tk _ (hA.less (Nat.le_succ n)) R F fun ρ1 h1 tk1 u1 K1 R1 q1 => ?_
        exact snd_itV e2 q1 R1 fun h' tk' I fp K R' T hfp => hQ ρ1 h' tk' I fp (K1.trans K) R' T fun b hb => K1.none (hfp b hb)
  | _ => trivial
end
end Mine
set_option maxRecDepth 100000
open PySem PySem.W PyProof.Rows
namespace Mine
section
variable {C : Cx} {tk : Nat} {A : Around} {env : Env} {h : Heap}
theorem isZero_iff {i : Int} (e : isZero i = true) : i = 0 := by
  unfold isZero at e
  split at e
  · rfl
  · first | exact none_ne e | cases e

theorem code_comp {elt : Expr} {all : List Comprehension} {sc : Scope} {pos : Pos} {d : Nat} {g : Comprehension} {it acc : Value} {R : Flow → Shared → Prop} (hd : all[d]? = some g) (h0 : isZero g.is_async = true)
    (ht : WP C A (pyNext it) (fun r s₁ => (r = none ∧ R .next s₁) ∨ ∃ v, r = some v ∧ wpAny (model pw C.w) A (letOwnedTupleGo g.target it v) (fun _ s₂ => wpAny (model pw C.w) A (assign g.target env v) (fun _ s₃ =>
      wpAny (model pw C.w) A (forIn g.ifs true fun c r => if r = true then do let ok ← isTrue c env (eval c env); pure (ForInStep.yield ok) else pure (ForInStep.yield r)) (fun ok s₄ => match ok with
        | false => codeAny (model pw C.w) A (.compLoop (.ListComp elt all sc pos) d it acc env) (noRaise R) s₄
        | true => match all[d + 1]? with
          | none => wpAny (model pw C.w) A (eval elt env) (fun x s₅ => wpAny (model pw C.w) A (call (.builtin "list.append") [acc, x]) (fun _ s₆ => codeAny (model pw C.w) A (.compLoop (.ListComp elt all sc pos) d it acc env) (noRaise R) s₆) (fun _ _ => False) s₅) (fun _ _ => False) s₄
          | some g' => isZero g'.is_async = true ∧ (∀ xv, foldedSetIterable g'.iter env xv = pure xv) ∧ wpAny (model pw C.w) A (eval g'.iter env) (fun x s₅ => wpAny (model pw C.w) A (pyIter x) (fun I' s₆ =>
              codeAny (model pw C.w) A (.compStart (.ListComp elt all sc pos) (d + 1) I' acc env) (noRaise fun _ s₇ => codeAny (model pw C.w) A (.compLoop (.ListComp elt all sc pos) d it acc env) (noRaise R) s₇) s₆) (fun _ _ => False) s₅) (fun _ _ => False) s₄)
        (fun _ _ => False) s₃) (fun _ _ => False) s₂) (fun _ _ => False) s₁) h tk) : codeAny (model pw C.w) A (.compLoop (.ListComp elt all sc pos) d it acc env) (noRaise R) (C.st h tk) := by
  have h0' := isZero_iff h0
  refine codeAny_loop' rfl (fun _ s => s = C.st h tk) (fun k s hs => ?_) 0 rfl
  subst hs
  show wpAny _ A ((compTurn (.ListComp elt all sc pos) d it acc env).onRaise (fun x => do noteFrame x env; theTreesLotGoes x)) _ _ _
  refine wpAny_noted ?_
  unfold compTurn
  simp only [hd]
  refine wpAny_bind (wpAny_standAt ?_)
  rw [h0']
  refine wpAny_bind (wpAny_mono ht (fun r s₁ h₁ => ?_) fun _ _ h' => h'.elim)
  rcases h₁ with ⟨rfl, hR⟩ | ⟨v, rfl, h₁⟩
  · exact wpAny_pure hR
  · refine wpAny_bind (wpAny_mono h₁ (fun _ s₂ h₂ => ?_) fun _ _ h' => h'.elim)
    refine wpAny_bind (wpAny_mono h₂ (fun _ s₃ h₃ => ?_) fun _ _ h' => h'.elim)
    refine wpAny_bind (wpAny_mono h₃ (fun ok s₄ h₄ => ?_) fun _ _ h' => h'.elim)
    cases ok with
    | false => exact wpAny_pure (.inr ⟨rfl, h₄⟩)
    | true =>
      cases hg : all[d + 1]? with
      | none =>
        rw [hg] at h₄
        exact wpAny_bind (wpAny_bind (wpAny_mono h₄ (fun x s₅ h₅ => wpAny_bind (wpAny_mono h₅ (fun _ s₆ h₆ => wpAny_pure (wpAny_pure (.inr ⟨rfl, h₆⟩))) fun _ _ h' => h'.elim)) fun _ _ h' => h'.elim))
      | some g' =>
        rw [hg] at h₄
        obtain ⟨hz, hf, h₄⟩ := h₄
        have hz' := isZero_iff hz
        have hn : ¬ ((g'.is_async != 0) = true) := by rw [hz']; decide
        refine wpAny_bind (wpAny_mono h₄ (fun x s₅ h₅ => wpAny_bind (wpAny_standAt ?_)) fun _ _ h' => h'.elim)
        rw [if_neg hn, hf]
        refine wpAny_bind (wpAny_pure ?_)
        rw [if_neg hn]
        refine wpAny_bind (wpAny_holding (wpAny_mono h₅ (fun I' s₆ h₆ => ?_) fun _ _ h' => h'.elim))
        refine wpAny_bind (wpAny_runOwn (codeAny_mono h₆ fun r s₇ h₇ => ?_))
        cases r with
        | ok f => exact wpAny_pure (.inr ⟨rfl, h₇⟩)
        | error e => exact h₇.elim

theorem code_compStart {elt : Expr} {all : List Comprehension} {sc : Scope} {pos : Pos} {d : Nat} {g : Comprehension} {it acc : Value} {R : Result → Shared → Prop} {s : Shared} (hd : all[d]? = some g) (h0 : isZero g.is_async = true)
    (h1 : codeAny (model pw C.w) A (.compLoop (.ListComp elt all sc pos) d it acc env) R s)
    (h : wpAny (model pw C.w) A (pyIter it) (fun it' s' => codeAny (model pw C.w) A (.compLoop (.ListComp elt all sc pos) d it' acc env) R s') (fun _ _ => False) s) :
    codeAny (model pw C.w) A (.compStart (.ListComp elt all sc pos) d it acc env) R s := by
  have h0' := isZero_iff h0
  refine codeAny_of_tree ?_
  show wpAny _ A ((compStart (.ListComp elt all sc pos) d it acc env).onRaise (fun x => do noteFrame x env; standAt theWindowsPlace)) _ _ s
  refine wpAny_notedAt ?_
  unfold compStart
  have ec : clausesOf (.ListComp elt all sc pos) = all := rfl
  rw [ec, hd]
  have hn : ¬ ((Option.elim (some g) false fun x => x.is_async != 0) = true) := by
    show ¬ ((g.is_async != 0) = true)
    rw [h0']; decide
  rw [if_neg hn]
  refine wpAny_bind (wpAny_askSetting (wpAny_ite ?_))
  split
  · exact wpAny_pure (And.intro rfl h1)
  · exact wpAny_bind (wpAny_rule (wpAny_bind (wpAny_standAt (wpAny_bind (wpAny_mono h (fun it' s' h' => wpAny_pure (And.intro rfl h')) fun _ _ x => x.elim)))))

theorem snd_self {ρ : List Addr} {src : Src} {i : Nat} {I : Addr} {fp : List Addr} (T : ItR C ρ src i I fp h) {Q : Value → Shared → Prop} (hQ : Q (.ref I) (C.st h tk)) : WP C A (pyIter (.ref I)) Q h tk := by
  obtain ⟨_, T⟩ := T
  cases src with
  | rng a m =>
    obtain ⟨rfl, hI, _⟩ := T
    exact wpAny_pyIter_rangeiter (s := C.st h tk) hI hQ
  | lst k =>
    obtain ⟨rfl, l, hl, hit⟩ := T
    exact wpAny_pyIter_listiter (s := C.st h tk) hit hQ
  | enu k =>
    obtain ⟨l, it, old, rfl, hl, he, _⟩ := T
    exact wpAny_pyIter_enum (s := C.st h tk) he hQ
  | byt l =>
    obtain ⟨rfl, t, hit⟩ := T
    exact KBw.pyIter_self (s := C.st h tk) hit hQ

variable {n : Nat} {orc : Orc} {ih : EvT} {f f1 : AF} {σ σ1 σ' : H} {r : Res}
theorem drop_cons {α : Type} {l r : List α} {a : α} {d : Nat} (e : l.drop d = a :: r) : l[d]? = some a ∧ l.drop (d + 1) = r := by
  constructor
  · have := congrArg (fun x => x[0]?) e
    simpa using this
  · rw [← List.drop_drop, e]; rfl

theorem snd_stCo (hih : Snd C n ih) {elt : Expr} {gens : List Comprehension} {src : Src} {i acc : Nat} (e : stCo ih f elt gens src i acc σ = some (r, σ')) : Mean C (n + 1) (.co f elt gens src i acc) σ r σ' := by
  cases gens with
  | nil => first | exact none_ne e | cases e
  | cons g rest =>
    simp only [stCo] at e
    split at e
    · first | exact none_ne e | cases e
    · rename_i hz
      split at e
      · first | exact none_ne e | cases e
      · rename_i hs
        obtain ⟨rfl, rfl⟩ := some_pair e
        refine ⟨rfl, fun env A ρ h tk R I fp all d sc pos accA hA hd RR' F T ha hQ => ?_⟩
        refine code_comp (drop_cons hd).1 hz (snd_turn_none hA.handled hs T RR' F fun h' tk' K R' F' => .inl ⟨rfl, ?_⟩)
        exact hQ ρ h' tk' K R' F'
      · rename_i it hs
        obtain ⟨f1, σ1, e1, e⟩ := toF_some e
        obtain ⟨ok, σ2, e2, e⟩ := toB_some e
        cases r with
        | f f' =>
          have hn1 : f1.names = f.names := by
            cases it with
            | one v => exact (hih _ _ _ _ e1).1
            | two i v => exact (hih _ _ _ _ e1).1
          have body : ∀ (env : Env) A ρ h tk (R : Flow → Shared → Prop) I fp all d sc pos accA, AOk (n + 1) A → all.drop d = g :: rest → RR C ρ σ h → FR C ρ f env h → ItR C ρ src i I fp h → ρ[acc]? = some accA →
              (∀ ρ3 h3 tk3, Kx (Own' f env fp) ρ ρ3 h h3 → RR C ρ3 σ2 h3 → FR C ρ3 f1 env h3 → ItR C ρ3 src (i + 1) I fp h3 → match ok with
                | false => codeAny (model pw C.w) A (.compLoop (.ListComp elt all sc pos) d (.ref I) (.ref accA) env) (noRaise R) (C.st h3 tk3)
                | true => match all[d + 1]? with
                  | none => wpAny (model pw C.w) A (eval elt env) (fun x s₅ => wpAny (model pw C.w) A (call (.builtin "list.append") [.ref accA, x]) (fun _ s₆ => codeAny (model pw C.w) A (.compLoop (.ListComp elt all sc pos) d (.ref I) (.ref accA) env) (noRaise R) s₆) (fun _ _ => False) s₅) (fun _ _ => False) (C.st h3 tk3)
                  | some g' => isZero g'.is_async = true ∧ (∀ xv, foldedSetIterable g'.iter env xv = pure xv) ∧ wpAny (model pw C.w) A (eval g'.iter env) (fun x s₅ => wpAny (model pw C.w) A (pyIter x) (fun I' s₆ =>
                      codeAny (model pw C.w) A (.compStart (.ListComp elt all sc pos) (d + 1) I' (.ref accA) env) (noRaise fun _ s₇ => codeAny (model pw C.w) A (.compLoop (.ListComp elt all sc pos) d (.ref I) (.ref accA) env) (noRaise R) s₇) s₆) (fun _ _ => False) s₅) (fun _ _ => False) (C.st h3 tk3)) →
              codeAny (model pw C.w) A (.compLoop (.ListComp elt all sc pos) d (.ref I) (.ref accA) env) (noRaise R) (C.st h tk) := by
            intro env A ρ h tk R I fp all d sc pos accA hA hd RR' F T ha hB
            have hA' := hA.less (Nat.le_succ n)
            refine code_comp (drop_cons hd).1 hz (wpAny_mono (snd_turn_some hih hA' hs e1 T RR' F (Q := fun s₃ => wpAny (model pw C.w) A (forIn g.ifs true fun c r => if r = true then do let ok ← isTrue c env (eval c env); pure (ForInStep.yield ok) else pure (ForInStep.yield r)) (fun ok s₄ => match ok with
              | false => codeAny (model pw C.w) A (.compLoop (.ListComp elt all sc pos) d (.ref I) (.ref accA) env) (noRaise R) s₄
              | true => match all[d + 1]? with
                | none => wpAny (model pw C.w) A (eval elt env) (fun x s₅ => wpAny (model pw C.w) A (call (.builtin "list.append") [.ref accA, x]) (fun _ s₆ => codeAny (model pw C.w) A (.compLoop (.ListComp elt all sc pos) d (.ref I) (.ref accA) env) (noRaise R) s₆) (fun _ _ => False) s₅) (fun _ _ => False) s₄
                | some g' => isZero g'.is_async = true ∧ (∀ xv, foldedSetIterable g'.iter env xv = pure xv) ∧ wpAny (model pw C.w) A (eval g'.iter env) (fun x s₅ => wpAny (model pw C.w) A (pyIter x) (fun I' s₆ =>
                    codeAny (model pw C.w) A (.compStart (.ListComp elt all sc pos) (d + 1) I' (.ref accA) env) (noRaise fun _ s₇ => codeAny (model pw C.w) A (.compLoop (.ListComp elt all sc pos) d (.ref I) (.ref accA) env) (noRaise R) s₇) s₆) (fun _ _ => False) s₅) (fun _ _ => False) s₄)
              (fun _ _ => False) s₃) fun ρ2 h2 tk2 K2 R2 F2 T2 => ?_).2 (fun r s₁ hr => .inr hr) fun _ _ x => x)
            refine hih _ _ _ _ e2 env A ρ2 h2 tk2 _ hA' R2 F2 fun ρ3 h3 tk3 K3 R3 => ?_
            exact hB ρ3 h3 tk3 (K2.trans K3.no) R3 (F2.kx R2 K3) (T2.over R2 F2 K3.no)
          cases ok with
          | false =>
            obtain ⟨hn3, m3⟩ := hih _ _ _ _ e
            refine ⟨hn3.trans hn1, fun env A ρ h tk R I fp all d sc pos accA hA hd RR' F T ha hQ => body env A ρ h tk R I fp all d sc pos accA hA hd RR' F T ha fun ρ3 h3 tk3 K3 R3 F3 T3 => ?_⟩
            exact m3 env A ρ3 h3 tk3 R I fp all d sc pos accA (hA.less (Nat.le_succ n)) hd R3 F3 T3 (pre_get K3.pre ha) ((hQ.after K3).names hn1)
          | true =>
            cases rest with
            | nil =>
              obtain ⟨v, σ3, e3, e⟩ := toE_some e
              obtain ⟨v', σ4, e4, e⟩ := toE_some e
              obtain ⟨hn3, m3⟩ := hih _ _ _ _ e
              refine ⟨hn3.trans hn1, fun env A ρ h tk R I fp all d sc pos accA hA hd RR' F T ha hQ => body env A ρ h tk R I fp all d sc pos accA hA hd RR' F T ha fun ρ3 h3 tk3 K3 R3 F3 T3 => ?_⟩
              have hd1 : all[d + 1]? = none := by
                have h1 := (drop_cons hd).2
                rw [List.getElem?_eq_none_iff]
                have := congrArg List.length h1
                simp at this
                omega
              rw [hd1]
              have hA' := hA.less (Nat.le_succ n)
              refine hih _ _ _ _ e3 env A ρ3 h3 tk3 _ hA' R3 F3 fun ρ4 h4 tk4 u4 K4 R4 q4 => ?_
              obtain ⟨σ5, er, m5⟩ := snd_append (A := A) (tk := tk4) e4 R4 (pre_get (K3.pre.trans K4.pre) ha) q4
              cases er
              refine m5 _ fun h5 K5 R5 => ?_
              have K45 := K4.trans K5
              exact m3 env A ρ4 h5 tk4 R I fp all d sc pos accA hA' hd R5 (F3.kx R3 K45) (T3.over R3 F3 K45.no) (pre_get (K3.pre.trans K4.pre) ha) ((hQ.after (K3.trans K45.no)).names hn1)
            | cons g' rest' =>
              simp only at e
              split at e
              · first | exact none_ne e | cases e
              · rename_i hz'
                obtain ⟨src', σ3, e3, e⟩ := toSrc_some e
                obtain ⟨f2, σ4, e4, e⟩ := toF_some e
                obtain ⟨hn2, m4⟩ := hih _ _ _ _ e4
                obtain ⟨hn3, m3⟩ := hih _ _ _ _ e
                obtain ⟨hfold, mit⟩ := hih _ _ _ _ e3
                have hn21 := hn2.trans hn1
                refine ⟨hn3.trans hn21, fun env A ρ h tk R I fp all d sc pos accA hA hd RR' F T ha hQ => body env A ρ h tk R I fp all d sc pos accA hA hd RR' F T ha fun ρ3 h3 tk3 K3 R3 F3 T3 => ?_⟩
                have hd' := (drop_cons hd).2
                have hd1 := (drop_cons hd').1
                rw [hd1]
                have hA' := hA.less (Nat.le_succ n)
                refine ⟨hz', fun xv => hfold env xv, mit env A ρ3 h3 tk3 _ hA' R3 F3 fun ρ4 h4 tk4 I' fp' K4 R4 T4 hfp' => ?_⟩
                have F4 := F3.kx R3 K4
                have inner : codeAny (model pw C.w) A (.compLoop (.ListComp elt all sc pos) (d + 1) (.ref I') (.ref accA) env) (noRaise fun _ s₇ => codeAny (model pw C.w) A (.compLoop (.ListComp elt all sc pos) d (.ref I) (.ref accA) env) (noRaise R) s₇) (C.st h4 tk4) := by
                  refine m4 env A ρ4 h4 tk4 _ I' fp' all (d + 1) sc pos accA hA' hd' R4 F4 T4 (pre_get (K3.pre.trans K4.pre) ha) fun ρ5 h5 tk5 K5 R5 F5 => ?_
                  have K35 : Kx (Own' f1 env []) ρ3 ρ5 h3 h5 := (K4.no.trans K5).drop fun b hb => by
                    rcases hb with hb | hb
                    · exact .inl (.inl hb)
                    · exact .inr (hfp' b hb)
                  have K35' : Kx (Own' f env fp) ρ3 ρ5 h3 h5 := K35.mono fun b hb => by
                    rcases Own'.congr hn1 hb with q | q
                    · exact .inl q
                    · cases q
                  exact m3 env A ρ5 h5 tk5 R I fp all d sc pos accA hA' hd R5 F5 (T3.over R3 F3 K35) (pre_get (K3.pre.trans K35.pre) ha) ((hQ.after (K3.trans K35')).names hn21)
                exact code_compStart hd1 hz' inner (snd_self T4 inner)
        | _ => trivial
end
end Mine
set_option maxRecDepth 100000
open PySem PySem.W PyProof.Rows
namespace Mine
section
variable {C : Cx} {n : Nat} {orc : Orc} {ih : EvT} {f f1 : AF} {σ σ1 σ' : H} {r : Res} {ρ ρ' : List Addr} {h h' : Heap} {tk : Nat} {A : Around} {env : Env}

theorem compNames_spec {all : List (Str × NameKind)} : ∀ {l : List (Str × NameKind)}, compNames f all l = true → ∀ x k, (x, k) ∈ l →
    (k = .local ∧ ∃ i, slot all x = some (i, .local)) ∨ (k = .free ∧ ∃ i k', slot f.names x = some (i, k') ∧ (k' = .cell ∨ k' = .free)) ∨ k = .globalImplicit
  | [], _, x, k, hm => nomatch hm
  | (y, ky) :: r, e, x, k, hm => by
    unfold compNames at e
    split at e
    · split at e
      · rename_i i hs
        rcases List.mem_cons.mp hm with hm | hm
        · cases hm; exact .inl ⟨rfl, i, hs⟩
        · exact compNames_spec e x k hm
      · first | exact none_ne e | cases e
    · split at e
      · rename_i i hs
        rcases List.mem_cons.mp hm with hm | hm
        · cases hm; exact .inr (.inl ⟨rfl, i, _, hs, .inl rfl⟩)
        · exact compNames_spec e x k hm
      · rename_i i hs
        rcases List.mem_cons.mp hm with hm | hm
        · cases hm; exact .inr (.inl ⟨rfl, i, _, hs, .inr rfl⟩)
        · exact compNames_spec e x k hm
      · first | exact none_ne e | cases e
    · rcases List.mem_cons.mp hm with hm | hm
      · cases hm; exact .inr (.inr rfl)
      · exact compNames_spec e x k hm
    · first | exact none_ne e | cases e

theorem cellOf_some {x : Str} {c : Addr} (e : env.cells.lookup x = some c) : cellOf env x = pure c := by
  unfold cellOf
  rw [e]

theorem closure_go : ∀ (l : List (Str × NameKind)) (cs : List (Str × Addr)), (∀ x, (x, NameKind.free) ∈ l → ∃ c, env.cells.lookup x = some c) → (∀ x c, (x, c) ∈ cs → env.cells.lookup x = some c) →
    ∃ cl, (forIn l cs fun a r => match a with | (name, kind) => if (kind == .free) = true then (do let c ← cellOf env name; pure (ForInStep.yield ((name, c) :: r))) else pure (ForInStep.yield r)) = (pure cl : Sem (List (Str × Addr))) ∧
      (∀ x c, (x, c) ∈ cl → env.cells.lookup x = some c) ∧ (∀ x c, (x, c) ∈ cs → (x, c) ∈ cl) ∧ ∀ x, (x, NameKind.free) ∈ l → ∃ c, (x, c) ∈ cl
  | [], cs, _, hcs => ⟨cs, by rw [List.forIn_nil], hcs, fun _ _ q => q, fun x hm => nomatch hm⟩
  | (y, k) :: r, cs, hl, hcs => by
    by_cases hk : k = .free
    · subst hk
      obtain ⟨c, hc⟩ := hl y List.mem_cons_self
      obtain ⟨cl, e, h1, h2, h3⟩ := closure_go r ((y, c) :: cs) (fun x hx => hl x (List.mem_cons_of_mem _ hx)) fun x c' hm => by
        rcases List.mem_cons.mp hm with hm | hm
        · cases hm; exact hc
        · exact hcs x c' hm
      refine ⟨cl, ?_, h1, fun x c' hm => h2 x c' (List.mem_cons_of_mem _ hm), fun x hx => ?_⟩
      · rw [List.forIn_cons]
        simp only [cellOf_some hc, pure_bind]
        rw [if_pos (by rfl)]
        simp only [pure_bind]
        exact e
      · rcases List.mem_cons.mp hx with hx | hx
        · cases hx; exact ⟨c, h2 _ _ List.mem_cons_self⟩
        · exact h3 x hx
    · obtain ⟨cl, e, h1, h2, h3⟩ := closure_go r cs (fun x hx => hl x (List.mem_cons_of_mem _ hx)) hcs
      refine ⟨cl, ?_, h1, h2, fun x hx => ?_⟩
      · rw [List.forIn_cons]
        have : ¬ ((k == NameKind.free) = true) := by simpa using hk
        simp only [this, if_false, pure_bind]
        exact e
      · rcases List.mem_cons.mp hx with hx | hx
        · cases hx; exact absurd rfl hk
        · exact h3 x hx

theorem lookup_of_mem {cl : List (Str × Addr)} (h1 : ∀ x c, (x, c) ∈ cl → env.cells.lookup x = some c) {x : Str} {c : Addr} (hm : (x, c) ∈ cl) : cl.lookup x = some c := by
  induction cl with
  | nil => cases hm
  | cons p r ih =>
    obtain ⟨y, d⟩ := p
    rw [List.lookup_cons]
    cases hb : x == y with
    | true =>
      have exy : x = y := by simpa using hb
      subst exy
      have e1 := h1 x d List.mem_cons_self
      have e2 := h1 x c hm
      rw [e1] at e2; cases e2; rfl
    | false =>
      rcases List.mem_cons.mp hm with hm | hm
      · cases hm; simp at hb
      · exact ih (fun x c hm => h1 x c (List.mem_cons_of_mem _ hm)) hm
theorem mem_of_lookup {α : Type} {x : Str} {a : α} : ∀ {cl : List (Str × α)}, cl.lookup x = some a → (x, a) ∈ cl
  | [], e => by cases e
  | (y, d) :: r, e => by
    rw [List.lookup_cons] at e
    cases hb : x == y with
    | true =>
      rw [hb] at e; cases e
      have exy : x = y := by simpa using hb
      subst exy
      exact List.mem_cons_self
    | false => rw [hb] at e; exact List.mem_cons_of_mem _ (mem_of_lookup e)

theorem closure_of {scope : Scope} (F : FR C ρ f env h) (hc : compNames f scope.names scope.names = true) : ∃ cl, closureFor scope env = pure cl ∧ (∀ x c, cl.lookup x = some c → env.cells.lookup x = some c) ∧ ∀ x, (x, NameKind.free) ∈ scope.names → ∃ c, env.cells.lookup x = some c ∧ cl.lookup x = some c := by
  have hl : ∀ x, (x, NameKind.free) ∈ scope.names → ∃ c, env.cells.lookup x = some c := by
    intro x hx
    rcases compNames_spec hc x _ hx with ⟨h, _⟩ | ⟨_, i, k', hs, hk⟩ | h
    · cases h
    · obtain ⟨c, vo, e, _⟩ := F.cel x i k' hs hk
      exact ⟨c, e⟩
    · cases h
  obtain ⟨cl, e, h1, h2, h3⟩ := closure_go scope.names [] hl (fun x c hm => nomatch hm)
  refine ⟨cl, ?_, fun x c q => h1 x c (mem_of_lookup q), fun x hx => ?_⟩
  · unfold closureFor
    have e' := congrArg (fun t : Sem (List (Str × Addr)) => t >>= fun r => pure r) e
    simp only [pure_bind] at e'
    exact e'
  · obtain ⟨c, hm⟩ := h3 x hx
    exact ⟨c, h1 x c hm, lookup_of_mem h1 hm⟩

theorem slot_mem' {x : Str} {l : List (Str × NameKind)} {i : Nat} {k : NameKind} (e : slot l x = some (i, k)) : (x, k) ∈ l ∧ l[i]? = some (x, k) := by
  obtain ⟨y, e1, rfl, _⟩ := slot_mem e
  exact ⟨List.mem_of_getElem? e1, e1⟩

theorem lookup_map (g : Str → NameKind → NameKind) {x : Str} : ∀ {names : List (Str × NameKind)} {k : NameKind}, names.lookup x = some k → (names.map fun p => (p.1, g p.1 p.2)).lookup x = some (g x k)
  | [], _, e => by cases e
  | (y, ky) :: r, k, e => by
    rw [List.map_cons]
    rw [List.lookup_cons] at e ⊢
    cases hx : x == y with
    | true =>
      rw [hx] at e; cases e
      have exy : x = y := by simpa using hx
      subst exy
      rfl
    | false =>
      rw [hx] at e
      exact lookup_map g e
theorem lookup_relabel {x : Str} {k : NameKind} {names : List (Str × NameKind)} (e : names.lookup x = some k) :
    (names.map fun (n, k) => if (k == NameKind.free && env.scope.kind == .function && env.kindOf n == some .cell) then (n, NameKind.cell) else (n, k)).lookup x = some k ∨
    (k = .free ∧ (names.map fun (n, k) => if (k == NameKind.free && env.scope.kind == .function && env.kindOf n == some .cell) then (n, NameKind.cell) else (n, k)).lookup x = some .cell) := by
  have ef : (fun (p : Str × NameKind) => match p with | (n, k) => if (k == NameKind.free && env.scope.kind == .function && env.kindOf n == some .cell) = true then (n, NameKind.cell) else (n, k)) =
      fun p => (p.1, if (p.2 == NameKind.free && env.scope.kind == .function && env.kindOf p.1 == some .cell) = true then NameKind.cell else p.2) := by
    funext ⟨n, k⟩
    simp only
    split <;> rfl
  rw [ef, lookup_map (fun n k => if (k == NameKind.free && env.scope.kind == .function && env.kindOf n == some .cell) = true then NameKind.cell else k) e]
  by_cases hc : (k == NameKind.free && env.scope.kind == .function && env.kindOf x == some .cell) = true
  · right
    refine ⟨?_, by simp only [hc]; rfl⟩
    simp only [Bool.and_eq_true] at hc
    simpa using hc.1.1
  · left
    rw [if_neg hc]

/-- the frame of a comprehension stands -/
theorem FR.comp {scope : Scope} {cl : List (Str × Addr)} {L : Addr} (F : FR C ρ f env h) (hkind : scope.kind = .function) (hc : compNames f scope.names scope.names = true)
    (h1 : ∀ x c, cl.lookup x = some c → env.cells.lookup x = some c) (h2 : ∀ x, (x, NameKind.free) ∈ scope.names → ∃ c, env.cells.lookup x = some c ∧ cl.lookup x = some c)
    (hL : ∃ m, h.Ns L m) (hf : C.h₀.get? L = none) : FR C ρ (compFrame scope.names f) (compEnvC scope cl L env) h := by
  have free_only : ∀ x i k, slot scope.names x = some (i, k) → (k = .cell ∨ k = .free) → k = .free := by
    intro x i k e hk
    rcases compNames_spec hc x k (slot_mem' e).1 with ⟨rfl, _⟩ | ⟨rfl, _⟩ | rfl
    · rcases hk with hk | hk <;> cases hk
    · rfl
    · rcases hk with hk | hk <;> cases hk
  refine ⟨hkind, F.glob, F.blt, fun x i k e => lookup_relabel (slot_lookup e).1, ?_, ?_, fun x i k e hk => ?_, fun x y c e e' => F.apart x y c (h1 x c e) (h1 y c e'), hf, fun x i c e hcc => ?_⟩
  · show (scope.names.map _).length = scope.names.length
    rw [List.length_map]
  · obtain ⟨m, hm⟩ := hL
    refine ⟨m, hm, fun x i v e ev => ?_⟩
    have e1 := (slot_mem' e).2
    have ev' : (scope.names.map fun (x, k) => match k with
      | .free => getVar f x
      | _ => none)[i]? = some (some v) := ev
    rw [List.getElem?_map, show scope.names[i]? = some (x, .local) from e1] at ev'
    cases ev'
  · have hkf := free_only x i k e hk
    subst hkf
    obtain ⟨c, e1, e2⟩ := h2 x (slot_mem' e).1
    rcases compNames_spec hc x _ (slot_mem' e).1 with ⟨hh, _⟩ | ⟨_, j, k', hs, hk'⟩ | hh
    · cases hh
    · obtain ⟨c', vo, e3, hcell, hv⟩ := F.cel x j k' hs hk'
      rw [e1] at e3; cases e3
      refine ⟨c, vo, e2, hcell, fun v ev => ?_⟩
      have ev' : (scope.names.map fun (x, k) => match k with
        | .free => getVar f x
        | _ => none)[i]? = some (some v) := ev
      rw [List.getElem?_map, show scope.names[i]? = some (x, .free) from (slot_mem' e).2] at ev'
      have ev2 : getVar f x = some v := by simpa using ev'
      refine hv v ?_
      unfold getVar at ev2
      split at ev2
      · cases ev2
      · rw [hs] at ev2
        rcases hk' with rfl | rfl
        · simp only at ev2
          split at ev2
          · rename_i hq; cases ev2; exact hq
          · cases ev2
        · simp only at ev2
          split at ev2
          · cases ev2
          · split at ev2
            · rename_i hq; cases ev2; exact hq
            · cases ev2
    · cases hh
  · have := free_only x i .cell e (.inl rfl)
    cases this
end
end Mine
set_option maxRecDepth 100000
open PySem PySem.W PyProof.Rows
namespace Mine
section
variable {C : Cx} {n N : Nat} {orc : Orc} {ih : EvT} {f f1 : AF} {σ σ1 σ' : H} {r : Res} {ρ ρ' : List Addr} {h h' : Heap} {tk : Nat} {A : Around} {env : Env}

theorem isFn_iff {k : ScopeKind} (e : isFn k = true) : k = .function := by
  unfold isFn at e
  split at e
  · rfl
  · first | exact none_ne e | cases e
theorem firstAsync_cons (g : Comprehension) (rest : List Comprehension) : firstAsync (g :: rest) = (g.is_async != 0) := by cases g; rfl
theorem firstIter_cons (g : Comprehension) (rest : List Comprehension) (env : Env) : firstIter (g :: rest) env = eval g.iter env := by cases g; rfl
theorem snd_compE (hih : Snd C n ih) {elt : Expr} {gens : List Comprehension} {sc : Scope} {p pos : Pos} {v : AV} (e : compE ih f elt gens sc σ = some (.v v, σ')) (use : Option (Value → Sem Unit)) {Q : Value → Shared → Prop}
    (hA : AOk n A) (R : RR C ρ σ h) (F : FR C ρ f env h)
    (hQ : ∀ ρ' h' tk' D Cc m, Kx NoP ρ ρ' h h' → RR C ρ' σ' h' → VR C ρ' v (.ref D) → h.get? Cc = none → h'.Ns Cc m → compPost (model pw C.w) A (fun _ _ => False) use Q (.ref D) Cc (.ok .next) (C.st h' tk')) :
    WP C A (comprehension (.ListComp elt gens sc p) sc env pos (newList []) (firstAsync gens) (firstIter gens env) use) Q h tk := by
  cases gens with
  | nil => first | exact none_ne e | cases e
  | cons g rest =>
    simp only [compE] at e
    split at e
    · first | exact none_ne e | cases e
    · rename_i hfn
      split at e
      · first | exact none_ne e | cases e
      · rename_i hnames
        split at e
        · first | exact none_ne e | cases e
        · rename_i hz
          obtain ⟨src, σ1, e1, e⟩ := toSrc_some e
          obtain ⟨f', σ2, e2, e⟩ := toF_some e
          (obtain ⟨e, rfl⟩ := some_pair e; cases e)
          have hk := isFn_iff hfn
          have hz' := isZero_iff hz
          have hasync : firstAsync (g :: rest) = false := by
            rw [firstAsync_cons, hz']; rfl
          obtain ⟨cl, hcl, h1, h2⟩ := closure_of F hnames
          obtain ⟨hfold, mit⟩ := hih _ _ _ _ e1
          obtain ⟨_, mco⟩ := hih _ _ _ _ e2
          have hnc : ∀ x ∈ sc.names, x.2 ≠ .cell := by
            rintro ⟨x, k⟩ hx hc
            cases hc
            rcases compNames_spec hnames x _ hx with ⟨hh, _⟩ | ⟨hh, _⟩ | hh <;> cases hh
          have hnl : ∀ x ∈ sc.names, x.2 = .local → sc.names.lookup x.1 = some .local := by
            rintro ⟨x, k⟩ hx hl
            cases hl
            rcases compNames_spec hnames x _ hx with ⟨_, i, hs⟩ | ⟨hh, _⟩ | hh
            · exact (slot_lookup hs).1
            · cases hh
            · cases hh
          rw [hasync]
          refine wpAny_comprehension_free (g := g) (gs := rest) (cl := cl) rfl (fun x => hfold env x) hcl hk hnl ?_
          rw [firstIter_cons]
          refine mit env A ρ h tk _ hA R F fun ρ1 h1' tk1 I fp K1 R1 T1 hfp => ?_
          have F1 := F.kx R K1
          refine wpAny_newObj_type ?_
          refine wpAny_newFunctionEnv hnc (by intro y hy; simp at hy) (fun h3 hns hsb => ?_) hk
          -- the heaps
          have hz2 : (h1'.push { cls := .type "list", dict := none, data := .seq ([] : List Value).toArray }).objs.size = h1'.objs.size + 1 := Heap.size_push ..
          have hns' : h3.Ns (h1'.objs.size + 1) (fun x => ([] : List (Str × Value)).reverse.lookup x) := by
            have this : h3.Ns ((h1'.push { cls := .type "list", dict := none, data := .seq ([] : List Value).toArray }).objs.size) (fun x => ([] : List (Str × Value)).reverse.lookup x) := hns
            rw [hz2] at this
            exact this
          have hsb' : Heap.SameBut (h1'.objs.size + 1) ((h1'.push { cls := .type "list", dict := none, data := .seq ([] : List Value).toArray }).push { cls := .type "dict", data := .dict #[] }) h3 := by
            have this : Heap.SameBut ((h1'.push { cls := .type "list", dict := none, data := .seq ([] : List Value).toArray }).objs.size) ((h1'.push { cls := .type "list", dict := none, data := .seq ([] : List Value).toArray }).push { cls := .type "dict", data := .dict #[] }) h3 := hsb
            rw [hz2] at this
            exact this
          have hk3 : ∀ b o, h1'.get? b = some o → h3.get? b = some o := fun b o eb => by
            refine hsb'.extBut b o (fun q => ?_) (push_keep _ _ b o (push_keep _ _ b o eb))
            have := Heap.lt_size eb
            rw [q] at this
            exact Nat.not_succ_lt_self this
          have hD3 : h3.get? h1'.objs.size = some (listO ([] : List Value).toArray 0) := by
            refine hsb'.extBut _ _ (fun q => ?_) (push_keep _ _ _ _ (Heap.get?_push_size _ rfl))
            exact absurd q (Nat.ne_of_lt (Nat.lt_succ_self _))
          have hLn : h1'.get? (h1'.objs.size + 1) = none := fresh_none (Nat.le_succ _)
          have R3 : RR C (ρ1 ++ [h1'.objs.size]) (σ1 ++ [.list []]) h3 := R1.alloc hk3 (Nat.le_refl _) hD3 ⟨[], 0, rfl, rfl⟩
          have K13 : Kx NoP ρ1 (ρ1 ++ [h1'.objs.size]) h1' h3 := Kx.alloc hk3 (fresh_none (Nat.le_refl _))
          have T3 : ItR C (ρ1 ++ [h1'.objs.size]) src 0 I fp h3 := T1.move (List.prefix_append _ _) fun b _ o eb => hk3 b o eb
          have F3 : FR C (ρ1 ++ [h1'.objs.size]) f env h3 := F1.kx R1 K13
          have Fc : FR C (ρ1 ++ [h1'.objs.size]) (compFrame sc.names f) (compEnvC sc cl (h1'.objs.size + 1) env) h3 := F3.comp hk hnames h1 h2 ⟨_, hns'⟩ (R1.fresh (Nat.le_succ _)).2
          have hacc : (ρ1 ++ [h1'.objs.size])[σ1.length]? = some h1'.objs.size := by
            rw [← R1.len, List.getElem?_append_right (Nat.le_refl _), Nat.sub_self]; rfl
          have inner : ∀ tk3, codeAny (model pw C.w) A (.compLoop (.ListComp elt (g :: rest) sc p) 0 (.ref I) (.ref h1'.objs.size) (compEnvC sc cl (h1'.objs.size + 1) env))
              (noRaise fun _ s => compPost (model pw C.w) A (fun _ _ => False) use Q (.ref h1'.objs.size) (h1'.objs.size + 1) (.ok .next) s) (C.st h3 tk3) := by
            intro tk3
            refine mco (compEnvC sc cl (h1'.objs.size + 1) env) A _ h3 tk3 _ I fp (g :: rest) 0 sc p h1'.objs.size hA rfl R3 Fc T3 hacc fun ρ4 h4 tk4 K4 R4 F4 => ?_
            obtain ⟨m, hm, _⟩ := F4.loc
            have Kall : Kx NoP ρ ρ4 h h4 := (((K1.trans K13).no (P := Own' (compFrame sc.names f) (compEnvC sc cl (h1'.objs.size + 1) env) fp)).trans K4).drop fun b hb => by
              right
              rcases hb with (rfl | ⟨x, i, hs, _⟩) | hb
              · exact K1.none hLn
              · rcases compNames_spec hnames x _ (slot_mem' hs).1 with ⟨hh, _⟩ | ⟨hh, _⟩ | hh <;> cases hh
              · exact hfp b hb
            exact hQ ρ4 h4 tk4 h1'.objs.size (h1'.objs.size + 1) m Kall R4 ⟨_, pre_get K4.pre hacc, rfl⟩ (K1.none hLn) hm
          have post : ∀ r s, noRaise (fun _ s => compPost (model pw C.w) A (fun _ _ => False) use Q (.ref h1'.objs.size) (h1'.objs.size + 1) (.ok .next) s) r s → compPost (model pw C.w) A (fun _ _ => False) use Q (.ref h1'.objs.size) (h1'.objs.size + 1) r s := by
            intro r s hr
            cases r with
            | error x => exact hr.elim
            | ok fl => cases use <;> exact hr
          have start : ∀ tk3, codeAny (model pw C.w) A (.compStart (.ListComp elt (g :: rest) sc p) 0 (.ref I) (.ref h1'.objs.size) (compEnvC sc cl (h1'.objs.size + 1) env)) (compPost (model pw C.w) A (fun _ _ => False) use Q (.ref h1'.objs.size) (h1'.objs.size + 1)) (C.st h3 tk3) :=
            fun tk3 => code_compStart rfl hz (codeAny_mono (inner tk3) post) (snd_self T3 (codeAny_mono (inner tk3) post))
          have hend := start (tk1 + ([] : List (Str × Value)).length)
          have hz3 : (C.st (h1'.push { cls := .type "list", dict := none, data := .seq ([] : List Value).toArray }) tk1).heap.objs.size = h1'.objs.size + 1 := hz2
          have goal : ∀ L, L = h1'.objs.size + 1 → codeAny (model pw C.w) A (.compStart (.ListComp elt (g :: rest) sc p) 0 (.ref I) (.ref h1'.objs.size) { newEnv sc L env.globals cl env.qual none .none (some env) env.builtins with scope := relabel sc env }) (compPost (model pw C.w) A (fun _ _ => False) use Q (.ref h1'.objs.size) L) (C.st h3 (tk1 + ([] : List (Str × Value)).length)) := by
            rintro L rfl
            exact hend
          exact goal _ hz3

theorem snd_listcomp (hih : Snd C n ih) {elt : Expr} {gens : List Comprehension} {sc : Scope} {p : Pos} {v : AV} (e : compE ih f elt gens sc σ = some (.v v, σ')) (env A ρ h tk Q) (hA : AOk n A) (R : RR C ρ σ h) (F : FR C ρ f env h) (hQ : PV C ρ σ' h v Q) :
    WP C A (eval (.ListComp elt gens sc p) env) Q h tk := by
  rw [arm_eval_ListComp]
  refine snd_compE hih e none hA R F fun ρ' h' tk' D Cc m K R' q hCc hm => ?_
  refine ⟨m, hm, fun h'' hs => ?_⟩
  have hcn : Cc ∉ ρ' := by
    obtain ⟨o, es, ep, ho, hd, _⟩ := hm
    exact R'.not_mem ho fun _ _ e => by rw [hd] at e; cases e
  have hc0 : C.h₀.get? Cc = none := by
    cases e0 : C.h₀.get? Cc with
    | none => rfl
    | some o => rw [R.base _ _ e0] at hCc; cases hCc
  have R'' : RR C ρ' σ' h'' := R'.keep fun b o hb e => sameBut_get hs (by
    rintro rfl
    rcases hb with hb | hb
    · exact hb hc0
    · exact hcn hb) e
  refine hQ ρ' h'' tk' _ ?_ R'' q
  refine ⟨K.pre, fun a ha => K.new a ha, fun b o hP e => ?_, fun b o hb hP e => sameBut_get hs (fun eb => by rw [eb, hCc] at e; cases e) (K.keep b o hb hP e)⟩
  obtain ⟨o', e'⟩ := K.life b o hP e
  exact ⟨o', sameBut_get hs (fun eb => by rw [eb, hCc] at e; cases e) e'⟩

theorem compE_v {ih : EvT} {f : AF} {elt : Expr} {gens : List Comprehension} {sc : Scope} {σ σ' : H} {r : Res} (e : compE ih f elt gens sc σ = some (r, σ')) : ∃ v, r = .v v := by
  cases gens with
  | nil => first | exact none_ne e | cases e
  | cons g rest =>
    simp only [compE] at e
    split at e
    · first | exact none_ne e | cases e
    · split at e
      · first | exact none_ne e | cases e
      · split at e
        · first | exact none_ne e | cases e
        · obtain ⟨_, _, _, e⟩ := toSrc_some e
          obtain ⟨_, _, _, e⟩ := toF_some e
          obtain ⟨rfl, rfl⟩ := some_pair e
          exact ⟨_, rfl⟩
theorem snd_stE (S : SF C) (hn : 40 ≤ n) (hN : N ≤ n) (hO : OSnd C orc N) (hih : Snd C n ih) {x : Expr} (e : stE C.ns orc ih f x σ = some (r, σ')) : Mean C (n + 1) (.e f x) σ r σ' := by
  by_cases hc : ∃ g as ks p, x = .Call g as ks p
  · obtain ⟨g, as, ks, p, rfl⟩ := hc
    exact snd_call S hn hN hO hih e
  · by_cases hl : ∃ a b c d, x = .ListComp a b c d
    · obtain ⟨elt, gens, sc, p, rfl⟩ := hl
      cases r with
      | v v =>
        intro env A ρ h tk Q hA R F hQ
        exact snd_listcomp hih e env A ρ h tk Q (hA.less (Nat.le_succ n)) R F hQ
      | _ =>
        exfalso
        obtain ⟨v, hv⟩ := compE_v (show compE ih f elt gens sc σ = some (_, σ') from e)
        cases hv
    · exact snd_stE0 S hn hih (fun g as ks p h => hc ⟨g, as, ks, p, h⟩) (fun a b c d h => hl ⟨a, b, c, d, h⟩) e
end
end Mine
set_option maxRecDepth 100000
open PySem PySem.W PyProof.Rows
namespace Mine

theorem zip_lookup_some : ∀ (ns : List Str) (us : List Value), ns.length = us.length → ∀ n ∈ ns, ∃ v, (ns.zip us).lookup n = some v
  | [], _, _, n, hm => nomatch hm
  | a :: r, [], h, n, hm => by simp at h
  | a :: r, u :: us, h, n, hm => by
    rw [List.zip_cons_cons, List.lookup_cons]
    cases hb : n == a with
    | true => exact ⟨u, rfl⟩
    | false =>
      rcases List.mem_cons.mp hm with rfl | hm
      · simp at hb
      · exact zip_lookup_some r us (by simpa using h) n hm
theorem filterMap_ext {α β : Type} {f g : α → Option β} : ∀ {l : List α}, (∀ a ∈ l, f a = g a) → l.filterMap f = l.filterMap g
  | [], _ => rfl
  | a :: r, h => by rw [List.filterMap_cons, List.filterMap_cons, h a List.mem_cons_self, filterMap_ext fun b hb => h b (List.mem_cons_of_mem _ hb)]
theorem zip_binds : ∀ (ns : List Str) (us : List Value), ns.length = us.length → ns.Nodup → ns.filterMap (fun n => ((ns.zip us).lookup n).map fun v => (n, v)) = ns.zip us
  | [], _, _, _ => rfl
  | a :: r, [], h, _ => by simp at h
  | a :: r, u :: us, h, hd => by
    obtain ⟨h1, h2⟩ := List.nodup_cons.mp hd
    rw [List.zip_cons_cons, List.filterMap_cons]
    have e1 : ((a, u) :: r.zip us).lookup a = some u := by simp [List.lookup_cons]
    rw [e1]
    simp only [Option.map_some]
    congr 1
    rw [← zip_binds r us (by simpa using h) h2]
    refine filterMap_ext fun n hn => ?_
    have hne : (n == a) = false := by
      rw [beq_eq_false_iff_ne]
      rintro rfl
      exact h1 hn
    rw [zip_binds r us (by simpa using h) h2, List.lookup_cons, hne]

theorem bind_plain {fd : FuncData} {args : List Arg} {kd df} {us : List Value} (hp : fd.params = ⟨[], args, none, [], kd, none, df⟩) (hd : fd.defaults = .none) (hl : args.length = us.length) (hn : (args.map (·.arg)).Nodup) :
    bindArgs fd ⟨us, []⟩ = pure ((args.map (·.arg)).zip us) := by
  unfold bindArgs
  rw [hp, hd]
  have hl' : (args.map (·.arg)).length = us.length := by simpa using hl
  have hmiss : (args.map (·.arg)).filter (fun n => (((args.map (·.arg)).zip us).lookup n).isNone) = [] := by
    rw [List.filter_eq_nil_iff]
    intro n hm
    obtain ⟨v, e⟩ := zip_lookup_some _ us hl' n hm
    rw [e]; simp
  have hng : ¬ (us.length > (args.map (·.arg)).length) := by omega
  have e0 : seqItems? .none = pure none := rfl
  simp only [List.map_nil, List.nil_append, List.forIn_nil, pure_bind, e0]
  rw [if_neg (by simp [hl'])]
  have e1 : (((Option.none : Option (Array Value)).getD #[]).toList.drop (((Option.none : Option (Array Value)).getD #[]).toList.length - (args.map (·.arg)).length)) = [] := by simp
  simp only [e1, List.length_nil, Nat.sub_zero, List.take_length, hmiss, List.isEmpty_nil, Bool.not_true, Bool.false_eq_true, if_false, List.drop_length, List.zip_nil_left, List.zip_nil_right, List.forIn_nil, pure_bind, List.append_nil, zip_binds _ us hl' hn]

theorem memS_iff {x : Str} : ∀ {l : List Str}, memS x l = true ↔ x ∈ l
  | [] => ⟨fun h => (nomatch h), fun h => (nomatch h)⟩
  | y :: r => by
    unfold memS
    cases hb : sEqB x y with
    | true => exact ⟨fun _ => by rw [sEqB_iff.mp hb]; exact List.mem_cons_self, fun _ => rfl⟩
    | false =>
      have hne : x ≠ y := fun e => by rw [sEqB_iff.mpr e] at hb; cases hb
      rw [List.mem_cons]
      exact ⟨fun h => .inr (memS_iff.mp h), fun h => by
        rcases h with h | h
        · exact absurd h hne
        · exact memS_iff.mpr h⟩
theorem nodupS_iff : ∀ {l : List Str}, nodupS l = true → l.Nodup
  | [], _ => List.nodup_nil
  | x :: r, h => by
    unfold nodupS at h
    split at h
    · cases h
    · rename_i hm
      refine List.nodup_cons.mpr ⟨fun hx => ?_, nodupS_iff h⟩
      rw [memS_iff.mpr hx] at hm; cases hm
theorem noFree_spec : ∀ {l : List (Str × NameKind)}, noFree l = true → ∀ x, (x, NameKind.free) ∉ l
  | [], _, x, hm => nomatch hm
  | (y, k) :: r, h, x, hm => by
    unfold noFree at h
    split at h
    · cases h
    · rename_i hk
      rcases List.mem_cons.mp hm with hm | hm
      · cases hm; exact hk rfl
      · exact noFree_spec h x hm
theorem plainP_spec {p : Arguments} (h : plainP p = true) : ∃ args kd df, p = ⟨[], args, none, [], kd, none, df⟩ ∧ (args.map (·.arg)).Nodup := by
  unfold plainP at h
  split at h
  · exact ⟨_, _, _, rfl, nodupS_iff h⟩
  · cases h

theorem cells_mem : ∀ (names : List (Str × NameKind)) (n : Nat) (acc : List (Str × Addr)), (∀ p ∈ acc, p ∈ cellsFrom n names acc) ∧ ∀ x, (x, NameKind.cell) ∈ names → ∃ c, (x, c) ∈ cellsFrom n names acc
  | [], n, acc => ⟨fun p hp => hp, fun x hm => nomatch hm⟩
  | (y, k) :: r, n, acc => by
    unfold cellsFrom
    by_cases hk : k = .cell
    · subst hk
      rw [if_pos (by rfl)]
      obtain ⟨h1, h2⟩ := cells_mem r (n + 1) ((y, n) :: acc)
      refine ⟨fun p hp => h1 p (List.mem_cons_of_mem _ hp), fun x hm => ?_⟩
      rcases List.mem_cons.mp hm with hm | hm
      · cases hm; exact ⟨n, h1 _ List.mem_cons_self⟩
      · exact h2 x hm
    · rw [if_neg (by simpa using hk)]
      obtain ⟨h1, h2⟩ := cells_mem r n acc
      refine ⟨h1, fun x hm => ?_⟩
      rcases List.mem_cons.mp hm with hm | hm
      · cases hm; exact absurd rfl hk
      · exact h2 x hm
theorem lookup_some_of_mem {α : Type} {x : Str} {a : α} : ∀ {l : List (Str × α)}, (x, a) ∈ l → ∃ b, l.lookup x = some b
  | [], hm => nomatch hm
  | (y, b) :: r, hm => by
    rw [List.lookup_cons]
    cases hb : x == y with
    | true => exact ⟨b, rfl⟩
    | false =>
      rcases List.mem_cons.mp hm with hm | hm
      · cases hm; simp at hb
      · exact lookup_some_of_mem hm

section
variable {C : Cx} {n : Nat} {orc : Orc} {ih : EvT} {f f1 : AF} {σ σ1 σ' : H} {r : Res} {ρ ρ' : List Addr} {h h' : Heap} {tk : Nat} {A : Around} {env : Env}

/-- how a frame's values stand to the maps of its locals and cells -/
structure BI (C : Cx) (ρ : List Addr) (names : List (Str × NameKind)) (f : AF) (m cm : Str → Option Value) : Prop where
  nm : f.names = names
  len : f.vals.length = names.length
  loc : ∀ x i v, slot names x = some (i, .local) → f.vals[i]? = some (some v) → ∃ u, m x = some u ∧ VR C ρ v u
  cel : ∀ x i v, slot names x = some (i, .cell) → f.vals[i]? = some (some v) → ∃ u, cm x = some u ∧ VR C ρ v u

theorem bindAll_spec {names : List (Str × NameKind)} {kindOf : Str → Option NameKind} (hk : ∀ x, kindOf x = names.lookup x) : ∀ {ps : List Arg} {vs : List AV} {us : List Value} {f f' : AF} {m cm : Str → Option Value},
    bindAll f ps vs = some f' → VRs C ρ vs us → BI C ρ names f m cm →
    ps.length = us.length ∧ (∀ p ∈ ps, names.lookup p.arg = some .local ∨ names.lookup p.arg = some .cell) ∧ BI C ρ names f' (bindL kindOf ((ps.map (·.arg)).zip us) m) (bindC kindOf ((ps.map (·.arg)).zip us) cm)
  | [], [], us, f, f', m, cm, e, q, B => by
    cases e; cases q
    exact ⟨rfl, fun p hp => (nomatch hp), B⟩
  | [], v :: vs, us, f, f', m, cm, e, q, B => by cases e
  | p :: ps, [], us, f, f', m, cm, e, q, B => by cases e
  | p :: ps, v :: vs, us, f, f', m, cm, e, ⟨u, us', eu, qv, qs⟩, B => by
    subst eu
    simp only [bindAll] at e
    split at e
    · rename_i f1 h1
      unfold setVar at h1
      rw [B.nm] at h1
      split at h1
      · rename_i i k hs
        have hi : i < f.vals.length := by rw [B.len]; have := slot_lt hs; omega
        have hlk := (slot_lookup hs).1
        split at h1
        · cases h1
          have B1 : BI C ρ names ⟨names, f.vals.set i (some v)⟩ (fun y => if y = p.arg then some u else m y) cm := by
            refine ⟨rfl, by rw [List.length_set]; exact B.len, fun x j w hx hw => ?_, fun x j w hx hw => ?_⟩
            · by_cases hxp : x = p.arg
              · subst hxp
                rw [hs] at hx; cases hx
                rw [List.getElem?_set_self hi] at hw
                cases hw
                exact ⟨u, by rw [if_pos rfl], qv⟩
              · have hji : i ≠ j := by rintro rfl; exact hxp (slot_inj hx hs)
                rw [List.getElem?_set_ne hji] at hw
                obtain ⟨u', e1, e2⟩ := B.loc x j w hx hw
                exact ⟨u', by rw [if_neg hxp]; exact e1, e2⟩
            · have hji : i ≠ j := by
                rintro rfl
                have := slot_inj hx hs
                subst this
                rw [hs] at hx; cases hx
              rw [List.getElem?_set_ne hji] at hw
              exact B.cel x j w hx hw
          obtain ⟨g1, g2, g3⟩ := bindAll_spec hk e qs B1
          refine ⟨by simp [g1], fun p' hp' => ?_, ?_⟩
          · rcases List.mem_cons.mp hp' with rfl | hp'
            · exact .inl hlk
            · exact g2 p' hp'
          · rw [List.map_cons, List.zip_cons_cons, bindL, bindC, if_pos (by rw [hk]; exact hlk), if_pos (by rw [hk]; exact hlk)]
            exact g3
        · cases h1
          have B1 : BI C ρ names ⟨names, f.vals.set i (some v)⟩ m (fun y => if y = p.arg then some u else cm y) := by
            refine ⟨rfl, by rw [List.length_set]; exact B.len, fun x j w hx hw => ?_, fun x j w hx hw => ?_⟩
            · have hji : i ≠ j := by
                rintro rfl
                have := slot_inj hx hs
                subst this
                rw [hs] at hx; cases hx
              rw [List.getElem?_set_ne hji] at hw
              exact B.loc x j w hx hw
            · by_cases hxp : x = p.arg
              · subst hxp
                rw [hs] at hx; cases hx
                rw [List.getElem?_set_self hi] at hw
                cases hw
                exact ⟨u, by rw [if_pos rfl], qv⟩
              · have hji : i ≠ j := by rintro rfl; exact hxp (slot_inj hx hs)
                rw [List.getElem?_set_ne hji] at hw
                obtain ⟨u', e1, e2⟩ := B.cel x j w hx hw
                exact ⟨u', by rw [if_neg hxp]; exact e1, e2⟩
          obtain ⟨g1, g2, g3⟩ := bindAll_spec hk e qs B1
          refine ⟨by simp [g1], fun p' hp' => ?_, ?_⟩
          · rcases List.mem_cons.mp hp' with rfl | hp'
            · exact .inr hlk
            · exact g2 p' hp'
          · have hnl : ¬ kindOf p.arg = some .local := by rw [hk, hlk]; exact fun h => by cases h
            rw [List.map_cons, List.zip_cons_cons, bindL, bindC, if_neg hnl, if_neg hnl]
            exact g3
        · cases h1
      · cases h1
    · first | exact none_ne e | cases e

theorem zip_fst {α β : Type} : ∀ {as : List α} {bs : List β} {p : α × β}, p ∈ as.zip bs → p.1 ∈ as
  | [], _, _, h => by simp at h
  | a :: as, [], _, h => by simp at h
  | a :: as, b :: bs, p, h => by
    rw [List.zip_cons_cons] at h
    rcases List.mem_cons.mp h with rfl | h
    · exact List.mem_cons_self
    · exact List.mem_cons_of_mem _ (zip_fst h)

theorem snd_stCa (S : SF C) (hih : Snd C n ih) {i : Nat} {args : List AV} (e : stCa ih i args σ = some (r, σ')) : Mean C (n + 1) (.ca i args) σ r σ' := by
  cases r with
  | v v =>
    intro A ρ h tk Q us hA R q hQ
    unfold stCa at e
    split at e
    · first | exact none_ne e | cases e
    · rename_i hi
      obtain ⟨fn, o, pm, cd, doc, hf, ho, hd, hcd⟩ := S.fns i (Nat.blt_eq.mp hi)
      rw [hf] at e
      simp only at e
      split at e
      · first | exact none_ne e | cases e
      · rename_i hok
        split at e
        · first | exact none_ne e | cases e
        · rename_i f0 hb
          obtain ⟨f1, w, σ1, e1, e⟩ := toFl_some e
          unfold fnOk at hok
          split at hok
          · cases hok
          · rename_i hpl
            split at hok
            · cases hok
            · rename_i hnf
              split at hok
              · cases hok
              · rename_i hfn
                split at hok
                · cases hok
                · rename_i hco
                  split at hok
                  · cases hok
                  · rename_i hgen
                    have hk := isFn_iff hfn
                    obtain ⟨as, kd, df, hp, hnd⟩ := plainP_spec hpl
                    have ea : fn.params.args = as := by rw [hp]
                    rw [ea] at hb
                    have hdep : A.depth < recursionLimit := by
                      have := hA.depth
                      have e1 : recursionLimit = 1000 := rfl
                      omega
                    -- the binding
                    have B0 : BI C ρ fn.scope.names ⟨fn.scope.names, freshVals fn.scope.names⟩ (fun _ => none) (fun _ => none) := by
                      have nov : ∀ (i : Nat) (v : AV), (freshVals fn.scope.names)[i]? ≠ some (some v) := by
                        intro i v e
                        unfold freshVals at e
                        rw [List.getElem?_map] at e
                        cases hx : fn.scope.names[i]? with
                        | none => rw [hx] at e; cases e
                        | some p => rw [hx] at e; cases e
                      exact ⟨rfl, by unfold freshVals; rw [List.length_map], fun x i v _ hv => absurd hv (nov i v), fun x i v _ hv => absurd hv (nov i v)⟩
                    obtain ⟨g1, g2, g3⟩ := bindAll_spec (kindOf := (envOfC fn.name fn.scope h.objs.size (C.fa i) cd).kindOf) (fun x => rfl) hb q B0
                    have hbind : bindArgs (Calls.docDef fn.name fn.params fn.body fn.scope pm cd doc) ⟨us, []⟩ = pure ((as.map (·.arg)).zip us) := bind_plain hp rfl g1 hnd
                    have cell_some : ∀ x, fn.scope.names.lookup x = some .cell → ∃ c, (cellsFrom (h.objs.size + 1) fn.scope.names []).lookup x = some c := by
                      intro x hx
                      obtain ⟨c, hc⟩ := (cells_mem fn.scope.names (h.objs.size + 1) []).2 x (mem_of_lookup hx)
                      exact lookup_some_of_mem hc
                    refine wpAny_call ?_
                    refine call_cells_ret (s := C.st h tk) (binds := (as.map (·.arg)).zip us) hdep (R.base _ _ ho) hd (S.nolimit.keeps R.base) (hcd.keeps R.base) hbind (fun x hx => ?_) (fun h₁ tk₁ Fr1 Cl1 => ?_) hco hgen hk
                    · obtain ⟨p, hp', ep⟩ := List.mem_map.mp (zip_fst hx)
                      rw [← ep]
                      rcases g2 p hp' with hl | hl
                      · exact .inl hl
                      · refine .inr ⟨hl, ?_⟩
                        obtain ⟨c, hc⟩ := cell_some _ hl
                        show ((cellsFrom (h.objs.size + 1) fn.scope.names []).lookup p.arg).isSome = true
                        rw [hc]; rfl
                    · have hk1 : ∀ b o, h.get? b = some o → h₁.get? b = some o := Fr1.keep
                      have R1 : RR C ρ σ h₁ := R.keepAll hk1
                      have F1 : FR C ρ f0 (envOfC fn.name fn.scope h.objs.size (C.fa i) cd) h₁ := by
                        refine ⟨hk, rfl, rfl, fun x j k hs => ?_, by rw [g3.len, g3.nm], ⟨_, Fr1.ns, fun x j v hs hv => ?_⟩, fun x j k hs hkk => ?_, fun x y c h1 h2 => ?_, (R.fresh (Nat.le_refl _)).2, fun x j c hs hc => ?_⟩
                        · rw [g3.nm] at hs
                          exact .inl (slot_lookup hs).1
                        · rw [g3.nm] at hs
                          exact g3.loc x j v hs hv
                        · rw [g3.nm] at hs
                          rcases hkk with rfl | rfl
                          · obtain ⟨c, hc⟩ := cell_some x (slot_lookup hs).1
                            exact ⟨c, _, hc, Cl1.cell x c hc, fun v hv => g3.cel x j v hs hv⟩
                          · exact absurd (slot_mem' hs).1 (noFree_spec hnf x)
                        · exact PySem.name_of_addr Cl1.apart (mem_of_lookup h1) (mem_of_lookup h2)
                        · have := Cl1.above x c (mem_of_lookup hc)
                          exact (R.fresh (Nat.le_of_lt this)).2
                      have hA1 : AOk n (A.deeper (envOfC fn.name fn.scope h.objs.size (C.fa i) cd)) := by
                        refine ⟨hA.handled, ?_, ?_⟩
                        · have := hA.depth
                          show A.depth + 1 + n < 990
                          omega
                        · have := hA.units
                          show A.units + 3 + 8 * n < 9800
                          omega
                      obtain ⟨hnm, mb⟩ := hih _ _ _ _ e1
                      refine mb _ _ ρ h₁ tk₁ _ hA1 R1 F1 fun ρ2 h2 tk2 fl K2 R2 F2 q2 => ?_
                      have K : Kx NoP ρ ρ2 h h2 := ((Kx.all (P := Own' f0 (envOfC fn.name fn.scope h.objs.size (C.fa i) cd) []) ρ hk1).trans K2).drop fun b hb => by
                        right
                        rcases hb with (rfl | ⟨x, j, hs, hc⟩) | hb
                        · exact fresh_none (Nat.le_refl _)
                        · exact fresh_none (Nat.le_of_lt (Cl1.above x b (mem_of_lookup hc)))
                        · cases hb
                      cases w with
                      | next => cases e; cases q2; exact hQ ρ2 h2 tk2 _ K R2 rfl
                      | ret v' =>
                        (obtain ⟨e, rfl⟩ := some_pair e; cases e)
                        obtain ⟨u, rfl, qu⟩ := q2
                        exact hQ ρ2 h2 tk2 _ K R2 qu
                      | brk => first | exact none_ne e | cases e
                      | cont => first | exact none_ne e | cases e
  | _ => trivial
end
end Mine
set_option maxRecDepth 100000
open PySem PySem.W PyProof.Rows
namespace Mine
section
variable {C : Cx} {n N : Nat} {orc : Orc} {ih : EvT} {f f1 : AF} {σ σ1 σ' : H} {r : Res} {ρ ρ' : List Addr} {h h' : Heap} {tk : Nat} {A : Around} {env : Env}

theorem AugAssign_Name {M : Model} {E : Value → Shared → Prop} {s : Shared} {x : Str} {pos' pos : Pos} {op : Operator} {value : Expr} {Q : Flow → Shared → Prop} (hd : (x == ("__debug__" : Str)) = false)
    (h : wpAny M A (eval (.Name x pos') env) (fun old s₁ => wpAny M A (eval value env) (fun v s₂ => wpAny M A (inplaceOp op old v) (fun r s₃ => wpAny M A (storeName env x r) (fun _ => Q .next) E s₃) E s₂) E s₁) E s) :
    wpAny M A (exec (.AugAssign (.Name x pos') op value pos) env) Q E s := by
  have e : exec (.AugAssign (.Name x pos') op value pos) env = (eval (.Name x pos') env >>= fun old => do
      let v ← holding [old] (eval value env)
      standAt pos
      let new ← operate [old, v] (inplaceOp op old v)
      standAt pos'
      bindName env x new
      pure .next) := by
    rw [exec_AugAssign_Name, eval_Name env x pos' hd]
    simp only [bind_assoc]
  rw [e]
  refine wpAny_bind (wpAny_mono h (fun old s₁ h₁ => ?_) fun _ _ x => x)
  refine wpAny_bind (wpAny_holding (wpAny_mono h₁ (fun v s₂ h₂ => ?_) fun _ _ x => x))
  refine wpAny_bind (wpAny_standAt (wpAny_bind (wpAny_operating (wpAny_mono h₂ (fun r s₃ h₃ => ?_) fun _ _ x => x))))
  exact wpAny_bind (wpAny_standAt (wpAny_bind (wpAny_mono (wpAny_bindName h₃) (fun _ _ x => wpAny_pure x) fun _ _ x => x)))

theorem Assign_one {t value : Expr} {pos : Pos} {Q : Flow → Shared → Prop} {s : Shared} (ht : tgtB t = true) (hv : ∀ es k p, value ≠ .Tuple es k p) (hs : swapsWith value (some t) pos.line env = pure false)
    (h : wpAny (model pw C.w) A (eval value env) (fun v s₁ => wpAny (model pw C.w) A (assign t env v) (fun _ => Q .next) (fun _ _ => False) s₁) (fun _ _ => False) s) :
    wpAny (model pw C.w) A (exec (.Assign [t] value pos) env) Q (fun _ _ => False) s := by
  rw [PyProof.Rows.exec_Assign]
  refine wpAny_bind (wpAny_standAt ?_)
  have e1 : swapsWithSole [t] value pos.line env = pure false := hs
  rw [e1]
  refine wpAny_bind (wpAny_pure ?_)
  rw [if_neg (by decide)]
  refine wpAny_bind (wpAny_mono h (fun v s₁ h₁ => ?_) fun _ _ x => x)
  have hw : swappedStores [t] value env = pure none := by
    cases t <;> first | (cases ht; done) | rfl | (cases value <;> first | rfl | exact absurd rfl (hv _ _ _))
  have ha : (assignEach [t] env).map (·.2) = [assign t env] := by
    cases t <;> first | (cases ht; done) | rfl
  rw [hw, ha]
  refine wpAny_bind (wpAny_pure ?_)
  show wpAny _ A (do assignAll v [assign t env]; pure .next) Q _ s₁
  exact wpAny_bind (wpAny_mono h₁ (fun _ _ x => wpAny_pure x) fun _ _ x => x)

theorem FR.sameBut {Cc : Addr} (F : FR C ρ f env h) (hs : Heap.SameBut Cc h h') (h1 : Cc ≠ env.locals) (h2 : ∀ x i k c, slot f.names x = some (i, k) → (k = .cell ∨ k = .free) → env.cells.lookup x = some c → c ≠ Cc) : FR C ρ f env h' :=
  F.move (List.prefix_refl _) (fun o e => sameBut_get hs h1.symm e) fun x i k c e hk hc o ho => sameBut_get hs (h2 x i k c e hk hc) ho

/-- x = [comprehension] -/
theorem snd_asLc (hn : 40 ≤ n) (hih : Snd C n ih) {t : Expr} {elt : Expr} {gens : List Comprehension} {sc : Scope} {p pos : Pos} {v : AV} {f' : AF} {σ1 : H} (ht : isNameB t = true) (e : compE ih f elt gens sc σ = some (.v v, σ1)) (ea : ih (.as f t v) σ1 = some (.f f', σ'))
    (env A ρ h tk Q) (hA : AOk n A) (R : RR C ρ σ h) (F : FR C ρ f env h) (hQ : PS C ρ σ' h f f' .next env [] Q) : WP C A (exec (.Assign [t] (.ListComp elt gens sc p) pos) env) Q h tk := by
  obtain ⟨hnm, m⟩ := hih _ _ _ _ ea
  cases t with
  | Name x px =>
    have hsw : swapsWith (.ListComp elt gens sc p) (some (.Name x px)) pos.line env = pure (env.blockKind == .function && env.kindOf x == some .local && px.line == (Expr.ListComp elt gens sc p).pos.line
      && !(sc.names.any fun (n, k) => n == x && (k == .local || k == .cell))) := rfl
    generalize (env.blockKind == .function && env.kindOf x == some .local && px.line == (Expr.ListComp elt gens sc p).pos.line
      && !(sc.names.any fun (n, k) => n == x && (k == .local || k == .cell))) = b at hsw
    cases b with
    | false =>
      refine Assign_one rfl (fun _ _ _ h => by cases h) hsw (snd_listcomp hih e env A ρ h tk _ hA R F fun ρ1 h1 tk1 u K1 R1 q1 => ?_)
      refine m env A ρ1 h1 tk1 _ u hA R1 (F.kx R K1) q1 fun ρ2 h2 tk2 K2 R2 F2 => ?_
      exact hQ ρ2 h2 tk2 _ (K1.no.trans K2) R2 F2 rfl
    | true =>
      rw [exec_Assign_Name_used (hs := hsw), arm_evalThenUse_ListComp]
      refine wpAny_bind (wpAny_standAt (wpAny_bind (wpAny_bind ?_)))
      refine snd_compE hih e (some (assign (.Name x px) env)) hA R F fun ρ1 h1 tk1 D Cc mC K1 R1 q1 hCc hmC => ?_
      have F1 := F.kx R K1
      -- Cc is neither the frame nor a cell
      have alive_ne : ∀ b o, h.get? b = some o → b ≠ Cc := fun b o eb ec => by rw [ec, hCc] at eb; cases eb
      have hCl : Cc ≠ env.locals := by
        obtain ⟨ml, ⟨o, es, ep, ho, _⟩, _⟩ := F.loc
        exact (alive_ne _ _ ho).symm
      have hCcel : ∀ x i k c, slot f.names x = some (i, k) → (k = .cell ∨ k = .free) → env.cells.lookup x = some c → c ≠ Cc := by
        intro x i k c hs hk hc
        obtain ⟨c', vo, e', ⟨o, ho, _⟩, _⟩ := F.cel x i k hs hk
        rw [hc] at e'; cases e'
        exact alive_ne _ _ ho
      have hc0 : C.h₀.get? Cc = none := by
        cases e0 : C.h₀.get? Cc with
        | none => rfl
        | some o => rw [R.base _ _ e0] at hCc; cases hCc
      show wpAny _ A (assign (.Name x px) env (.ref D)) _ _ _
      refine m env A ρ1 h1 tk1 _ _ hA R1 F1 q1 fun ρ2 h2 tk2 K2 R2 F2 => ?_
      -- the comprehension's frame stands yet
      have hm2 : h2.Ns Cc mC := by
        refine hmC.at' fun o eo => K2.keep Cc o ?_ (fun hP => ?_) eo
        · obtain ⟨o', es, ep, ho, hd, _⟩ := hmC
          exact R1.not_mem ho fun _ _ e => by rw [hd] at e; cases e
        · rcases hP with (hP | ⟨y, i, hs, hc⟩) | hP
          · exact hCl hP
          · exact hCcel y i .cell Cc hs (.inl rfl) hc rfl
          · cases hP
      refine ⟨mC, hm2, fun h3 hs3 => ?_⟩
      have hcn2 : Cc ∉ ρ2 := by
        obtain ⟨o, es, ep, ho, hd, _⟩ := hm2
        exact R2.not_mem ho fun _ _ e => by rw [hd] at e; cases e
      have R3 : RR C ρ2 σ' h3 := R2.keep fun b o hb e => sameBut_get hs3 (by
        rintro rfl
        rcases hb with hb | hb
        · exact hb hc0
        · exact hcn2 hb) e
      have F3 : FR C ρ2 f' env h3 := F2.sameBut hs3 hCl (by rw [hnm]; exact hCcel)
      have K12 : Kx (Own' f env []) ρ ρ2 h h2 := K1.no.trans K2
      have K3 : Kx (Own' f env []) ρ ρ2 h h3 := by
        refine ⟨K12.pre, K12.new, fun b o hP e => ?_, fun b o hb hP e => sameBut_get hs3 (alive_ne b o e) (K12.keep b o hb hP e)⟩
        obtain ⟨o', e'⟩ := K12.life b o hP e
        exact ⟨o', sameBut_get hs3 (alive_ne b o e) e'⟩
      exact wpAny_pure (wpAny_pure (hQ ρ2 h3 tk2 _ K3 R3 F3 rfl))
  | _ => cases ht

theorem snd_stS (S : SF C) (hn : 40 ≤ n) (hih : Snd C n ih) {st : Stmt} (e : stS ih f st σ = some (r, σ')) : Mean C (n + 1) (.s f st) σ r σ' := by
  cases r with
  | fl f' w =>
    cases st with
    | Return x p =>
      cases x with
      | none => first | exact none_ne e | cases e
      | some x =>
        obtain ⟨v, σ1, e1, e⟩ := toE_some e
        (obtain ⟨e, rfl⟩ := some_pair e; cases e)
        refine ⟨rfl, fun env A ρ h tk Q hA R F hQ => wpAny_Return_some (hih _ _ _ _ e1 env A ρ h tk _ (hA.less (Nat.le_succ n)) R F fun ρ1 h1 tk1 u K1 R1 q1 => ?_)⟩
        exact hQ ρ1 h1 tk1 _ K1.no R1 (F.kx R K1) ⟨u, rfl, q1⟩
    | If t a b p =>
      obtain ⟨c, σ1, e1, e⟩ := toB_some e
      cases c with
      | true =>
        obtain ⟨hnm, m⟩ := hih _ _ _ _ e
        refine ⟨hnm, fun env A ρ h tk Q hA R F hQ => wpAny_If (hih _ _ _ _ e1 env A ρ h tk _ (hA.less (Nat.le_succ n)) R F fun ρ1 h1 tk1 K1 R1 => ?_)⟩
        rw [if_pos rfl]
        exact m env A ρ1 h1 tk1 _ (hA.less (Nat.le_succ n)) R1 (F.kx R K1) (hQ.after K1.no)
      | false =>
        obtain ⟨hnm, m⟩ := hih _ _ _ _ e
        refine ⟨hnm, fun env A ρ h tk Q hA R F hQ => wpAny_If (hih _ _ _ _ e1 env A ρ h tk _ (hA.less (Nat.le_succ n)) R F fun ρ1 h1 tk1 K1 R1 => ?_)⟩
        rw [if_neg (by decide)]
        exact m env A ρ1 h1 tk1 _ (hA.less (Nat.le_succ n)) R1 (F.kx R K1) (hQ.after K1.no)
    | Expr x p =>
      obtain ⟨v, σ1, e1, e⟩ := toE_some e
      cases v with
      | none =>
        cases x with
        | Call g as ks q =>
          (obtain ⟨e, rfl⟩ := some_pair e; cases e)
          refine ⟨rfl, fun env A ρ h tk Q hA R F hQ => wpAny_Expr (hih _ _ _ _ e1 env A ρ h tk _ (hA.less (Nat.le_succ n)) R F fun ρ1 h1 tk1 u K1 R1 q1 => ?_) (by unfold interactive; rw [F.kind]; rfl) rfl⟩
          cases q1
          exact hQ ρ1 h1 tk1 _ K1.no R1 (F.kx R K1) rfl
        | _ => first | exact none_ne e | cases e
      | _ => first | exact none_ne e | cases e
    | Assign ts x p =>
      match ts, e with
      | [], e => first | exact none_ne e | cases e
      | _ :: _ :: _, e => first | exact none_ne e | cases e
      | [t], e =>
        have plain : (match tgtB t with
            | true => toE (ih (.e f x) σ) fun v σ => toF (ih (.as f t v) σ) fun f' σ => some (Res.fl f' .next, σ)
            | false => none) = some (.fl f' w, σ') → (∀ es k p, x ≠ .Tuple es k p) → (∀ env, swapsWith x (some t) p.line env = pure false) → Mean C (n + 1) (.s f (.Assign [t] x p)) σ (.fl f' w) σ' := by
          intro e hv hs
          split at e
          · rename_i ht
            obtain ⟨v, σ1, e1, e⟩ := toE_some e
            obtain ⟨f2, σ2, e2, e⟩ := toF_some e
            (obtain ⟨e, rfl⟩ := some_pair e; cases e)
            obtain ⟨hnm, m⟩ := hih _ _ _ _ e2
            refine ⟨hnm, fun env A ρ h tk Q hA R F hQ => Assign_one ht hv (hs env) (hih _ _ _ _ e1 env A ρ h tk _ (hA.less (Nat.le_succ n)) R F fun ρ1 h1 tk1 u K1 R1 q1 => ?_)⟩
            refine m env A ρ1 h1 tk1 _ u (hA.less (Nat.le_succ n)) R1 (F.kx R K1) q1 fun ρ2 h2 tk2 K2 R2 F2 => ?_
            exact hQ ρ2 h2 tk2 _ (K1.no.trans K2) R2 F2 rfl
          · first | exact none_ne e | cases e
        cases x with
        | Tuple es k q => first | exact none_ne e | cases e
        | SetComp a b c d => first | exact none_ne e | cases e
        | DictComp a b c d q => first | exact none_ne e | cases e
        | ListComp elt gens sc q =>
          have e : (match isNameB t with
            | true => toE (compE ih f elt gens sc σ) fun v σ => toF (ih (.as f t v) σ) fun f' σ => some (Res.fl f' .next, σ)
            | false => none) = some (.fl f' w, σ') := e
          obtain ⟨ht, e⟩ := bool_inv e
          obtain ⟨v, σ1, e1, e⟩ := toE_some e
          obtain ⟨f2, σ2, e2, e⟩ := toF_some e
          (obtain ⟨e, rfl⟩ := some_pair e; cases e)
          exact ⟨(hih _ _ _ _ e2).1, fun env A ρ h tk Q hA R F hQ => snd_asLc hn hih ht e1 e2 env A ρ h tk Q (hA.less (Nat.le_succ n)) R F hQ⟩
        | _ => exact plain e (fun _ _ _ h => by cases h) fun env => rfl
    | AugAssign t op x p =>
      cases t with
      | Name id pn =>
        have e : (match getVar f id with
          | some a => toE (ih (.e f x) σ) fun b σ => match augV op a b σ with
            | some (v, σ) => match setVar f id v with
              | some f' => some (Res.fl f' .next, σ)
              | none => none
            | none => none
          | none => none) = some (.fl f' w, σ') := e
        cases ha : getVar f id with
        | none => rw [ha] at e; cases e
        | some a =>
        rw [ha] at e
        obtain ⟨b, σ1, e1, e⟩ := toE_some e
        cases hv : augV op a b σ1 with
        | none => rw [hv] at e; cases e
        | some p =>
        obtain ⟨v, σ2⟩ := p
        rw [hv] at e
        simp only at e
        cases h2 : setVar f id v with
        | none => rw [h2] at e; cases e
        | some f2 =>
        rw [h2] at e
        (obtain ⟨e, rfl⟩ := some_pair e; cases e)
        have hd : (id == ("__debug__" : Str)) = false := by
          rw [sEqB_beq]
          unfold getVar at ha
          split at ha
          · cases ha
          · rename_i hq; exact hq
        refine ⟨setVar_names h2, fun env A ρ h tk Q hA R F hQ => AugAssign_Name hd (snd_getVar S R F ha fun u qu => ?_)⟩
        refine hih _ _ _ _ e1 env A ρ h tk _ (hA.less (Nat.le_succ n)) R F fun ρ1 h1 tk1 u1 K1 R1 q1 => ?_
        refine snd_aug hv (qu.mono K1.pre) q1 R1 fun ρ2 h2' tk2 u2 K2 R2 q2 => ?_
        have K12 := K1.trans K2
        refine snd_setVar h2 R2 (F.kx R K12) q2 fun ρ3 h3 tk3 K3 R3 F3 => ?_
        exact hQ ρ3 h3 tk3 _ (K12.no.trans K3) R3 F3 rfl
      | _ => first | exact none_ne e | cases e
    | For tgt x body orelse p =>
      cases orelse with
      | cons _ _ => first | exact none_ne e | cases e
      | nil =>
        obtain ⟨s, σ1, e1, e⟩ := toSrc_some e
        obtain ⟨hfold, mit⟩ := hih _ _ _ _ e1
        obtain ⟨hnm, m⟩ := hih _ _ _ _ e
        refine ⟨hnm, fun env A ρ h tk Q hA R F hQ => wpAny_For (mit env A ρ h tk _ (hA.less (Nat.le_succ n)) R F fun ρ1 h1 tk1 I fp K1 R1 T1 hfp => ?_) (fun xv => hfold env xv)⟩
        refine codeAny_mono (m env A ρ1 h1 tk1 Q I fp (hA.less (Nat.le_succ n)) R1 (F.kx R K1) T1 fun ρ2 h2 tk2 fl K2 R2 F2 q2 => ?_) fun r s hr => by
          cases r with
          | ok f => exact hr
          | error e => exact hr.elim
        refine hQ ρ2 h2 tk2 fl ((K1.no.trans K2).drop fun b hb => ?_) R2 F2 q2
        rcases hb with hb | hb
        · exact .inl (.inl hb)
        · exact .inr (hfp b hb)
    | While t body orelse p =>
      cases orelse with
      | cons _ _ => first | exact none_ne e | cases e
      | nil =>
        obtain ⟨hnm, m⟩ := hih _ _ _ _ e
        exact ⟨hnm, fun env A ρ h tk Q hA R F hQ => wpAny_While (codeAny_mono (m env A ρ h tk Q (hA.less (Nat.le_succ n)) R F hQ) fun r s hr => by
          cases r with
          | ok f => exact hr
          | error e => exact hr.elim)⟩
    | _ => first | exact none_ne e | cases e
  | _ => trivial

theorem snd_step (S : SF C) (hn : 40 ≤ n) (hN : N ≤ n) (hO : OSnd C orc N) (hih : Snd C n ih) : Snd C (n + 1) (stepEv C.ns orc ih) := by
  intro q σ r σ' e
  cases q with
  | e f x => exact snd_stE S hn hN hO hih e
  | es f xs => exact snd_stEs hih e
  | t f x => exact snd_stT hih e
  | ts f op xs => exact snd_stTs hih e
  | ch f l ops xs => exact snd_stCh S hn hih e
  | tch f l ops xs => exact snd_stTch S hn hih e
  | as f t v => exact snd_stAs hn hih e
  | asp f t i v => exact snd_stAsp hih e
  | asn f ts vs => exact snd_stAsn hih e
  | s f st => exact snd_stS S hn hih e
  | ss f sts => exact snd_stSs hih e
  | it f x => exact snd_stIt S hih e
  | fo f tgt src i body => exact snd_stFo hih e
  | wh f t body => exact snd_stWh hih e
  | ifs f xs => exact snd_stIfs hih e
  | co f elt gens src i acc => exact snd_stCo hih e
  | ca i args => exact snd_stCa S hih e

/-- THE SOUNDNESS of the evaluator -/
theorem snd_ev (S : SF C) (h40 : 40 ≤ N) (hO : OSnd C orc N) : ∀ k, Snd C (k + N) (ev C.ns orc k)
  | 0 => fun q σ r σ' e => by cases e
  | k + 1 => by
    have := snd_step S (by omega) (by omega) hO (snd_ev S h40 hO k)
    rw [show k + 1 + N = k + N + 1 by omega]
    exact this
end
end Mine
set_option maxRecDepth 100000
open PySem PySem.W PyProof.Rows
namespace Mine

/-! STEPS of the evaluator, as equations -/
section
variable {ns : List Int} {orc : Orc} {k : Nat} {f f' f1 f2 : AF} {σ σ' σ1 σ2 σ3 σ4 : H}

theorem ss_cons {s : Stmt} {r : List Stmt} (h : ev ns orc k (.s f s) σ = some (.fl f1 .next, σ1)) : ev ns orc (k + 1) (.ss f (s :: r)) σ = ev ns orc k (.ss f1 r) σ1 := by
  show toFl (ev ns orc k (.s f s) σ) _ = _
  rw [h]; rfl
theorem ss_ret {s : Stmt} {r : List Stmt} {v : AV} (h : ev ns orc k (.s f s) σ = some (.fl f1 (.ret v), σ1)) : ev ns orc (k + 1) (.ss f (s :: r)) σ = some (.fl f1 (.ret v), σ1) := by
  show toFl (ev ns orc k (.s f s) σ) _ = _
  rw [h]; rfl
theorem ss_nil : ev ns orc (k + 1) (.ss f []) σ = some (.fl f .next, σ) := rfl
theorem ss_one {s : Stmt} {w : Fl} (h : ev ns orc (k + 1) (.s f s) σ = some (.fl f1 w, σ1)) : ev ns orc (k + 2) (.ss f [s]) σ = some (.fl f1 w, σ1) := by
  show toFl (ev ns orc (k + 1) (.s f s) σ) _ = _
  rw [h]; cases w <;> rfl
theorem ss_app : ∀ (a b : List Stmt) (k : Nat) (f : AF) (σ : H), ev ns orc (k + 1 + a.length) (.ss f a) σ = some (.fl f' .next, σ') → ev ns orc (k + 1 + a.length) (.ss f (a ++ b)) σ = ev ns orc (k + 1) (.ss f' b) σ'
  | [], b, k, f, σ, h => by cases h; rfl
  | s :: a, b, k, f, σ, h => by
    have h' : ev ns orc (k + 1 + a.length + 1) (.ss f (s :: a)) σ = some (.fl f' .next, σ') := h
    obtain ⟨f1, w, σ1, e1, e⟩ := toFl_some h'
    show ev ns orc (k + 1 + a.length + 1) (.ss f (s :: (a ++ b))) σ = _
    cases w with
    | next => rw [ss_cons e1]; exact ss_app a b k f1 σ1 e
    | brk => cases e
    | cont => cases e
    | ret v => cases e
theorem s_if_t {t : Expr} {a b : List Stmt} {p : Pos} {B : Bool} (h : ev ns orc k (.t f t) σ = some (.b B, σ1)) (hB : B = true) : ev ns orc (k + 1) (.s f (.If t a b p)) σ = ev ns orc k (.ss f a) σ1 := by
  subst hB
  show toB (ev ns orc k (.t f t) σ) _ = _
  rw [h]; rfl
theorem s_if_f {t : Expr} {a b : List Stmt} {p : Pos} {B : Bool} (h : ev ns orc k (.t f t) σ = some (.b B, σ1)) (hB : B = false) : ev ns orc (k + 1) (.s f (.If t a b p)) σ = ev ns orc k (.ss f b) σ1 := by
  subst hB
  show toB (ev ns orc k (.t f t) σ) _ = _
  rw [h]; rfl
theorem s_for {t x : Expr} {b : List Stmt} {p : Pos} {s : Src} (h : ev ns orc k (.it f x) σ = some (.src s, σ1)) : ev ns orc (k + 1) (.s f (.For t x b [] p)) σ = ev ns orc k (.fo f t s 0 b) σ1 := by
  show toSrc (ev ns orc k (.it f x) σ) _ = _
  rw [h]; rfl
theorem s_while {t : Expr} {b : List Stmt} {p : Pos} : ev ns orc (k + 1) (.s f (.While t b [] p)) σ = ev ns orc k (.wh f t b) σ := rfl
theorem wh_end {t : Expr} {b : List Stmt} {B : Bool} (h : ev ns orc k (.t f t) σ = some (.b B, σ1)) (hB : B = false) : ev ns orc (k + 1) (.wh f t b) σ = some (.fl f .next, σ1) := by
  subst hB
  show toB (ev ns orc k (.t f t) σ) _ = _
  rw [h]; rfl
theorem wh_go {t : Expr} {b : List Stmt} {B : Bool} (h : ev ns orc k (.t f t) σ = some (.b B, σ1)) (hB : B = true) (h2 : ev ns orc k (.ss f b) σ1 = some (.fl f2 .next, σ2)) : ev ns orc (k + 1) (.wh f t b) σ = ev ns orc k (.wh f2 t b) σ2 := by
  subst hB
  show toB (ev ns orc k (.t f t) σ) _ = _
  rw [h]
  show toFl (ev ns orc k (.ss f b) σ1) _ = _
  rw [h2]; rfl
/-- the target of turn i -/
noncomputable def foAs (ih : EvT) (f : AF) (tgt : Expr) (src : Src) (i : Nat) (σ : H) : Option (Res × H) := match srcAt σ src i with
  | some (some it) => asItem ih f tgt it σ
  | _ => none
/-- turn i: target and body -/
noncomputable def foTu (ih : EvT) (f : AF) (tgt : Expr) (src : Src) (i : Nat) (body : List Stmt) (σ : H) : Option (Res × H) := toF (foAs ih f tgt src i σ) fun f1 σ1 => ih (.ss f1 body) σ1
theorem foAs_some {ih : EvT} {tgt : Expr} {src : Src} {i : Nat} {r : Res × H} (h : foAs ih f tgt src i σ = some r) : ∃ it, srcAt σ src i = some (some it) ∧ asItem ih f tgt it σ = some r := by
  unfold foAs at h
  split at h
  · rename_i it e; exact ⟨it, e, h⟩
  · cases h
theorem fo_end {tgt : Expr} {src : Src} {i : Nat} {b : List Stmt} (h : srcAt σ src i = some none) : ev ns orc (k + 1) (.fo f tgt src i b) σ = some (.fl f .next, σ) := by
  show (match srcAt σ src i with
    | none => none
    | some none => some (Res.fl f .next, σ)
    | some (some it) => _) = _
  rw [h]
theorem fo_turn {tgt : Expr} {src : Src} {i : Nat} {b : List Stmt} (h1 : foAs (ev ns orc k) f tgt src i σ = some (.f f1, σ1)) (h2 : ev ns orc k (.ss f1 b) σ1 = some (.fl f2 .next, σ2)) : ev ns orc (k + 1) (.fo f tgt src i b) σ = ev ns orc k (.fo f2 tgt src (i + 1) b) σ2 := by
  obtain ⟨it, e, h1⟩ := foAs_some h1
  show (match srcAt σ src i with
    | none => none
    | some none => some (Res.fl f .next, σ)
    | some (some it) => toF (asItem (ev ns orc k) f tgt it σ) fun f σ => toFl (ev ns orc k (.ss f b) σ) _) = _
  rw [e]
  show toF (asItem (ev ns orc k) f tgt it σ) _ = _
  rw [h1]
  show toFl (ev ns orc k (.ss f1 b) σ1) _ = _
  rw [h2]
  rfl
theorem fo_ret {tgt : Expr} {src : Src} {i : Nat} {b : List Stmt} {v : AV} (h1 : foAs (ev ns orc k) f tgt src i σ = some (.f f1, σ1)) (h2 : ev ns orc k (.ss f1 b) σ1 = some (.fl f2 (.ret v), σ2)) : ev ns orc (k + 1) (.fo f tgt src i b) σ = some (.fl f2 (.ret v), σ2) := by
  obtain ⟨it, e, h1⟩ := foAs_some h1
  show (match srcAt σ src i with
    | none => none
    | some none => some (Res.fl f .next, σ)
    | some (some it) => toF (asItem (ev ns orc k) f tgt it σ) fun f σ => toFl (ev ns orc k (.ss f b) σ) _) = _
  rw [e]
  show toF (asItem (ev ns orc k) f tgt it σ) _ = _
  rw [h1]
  show toFl (ev ns orc k (.ss f1 b) σ1) _ = _
  rw [h2]
  rfl
theorem fo_go {tgt : Expr} {src : Src} {i : Nat} {b : List Stmt} (h : foTu (ev ns orc k) f tgt src i b σ = some (.fl f2 .next, σ2)) : ev ns orc (k + 1) (.fo f tgt src i b) σ = ev ns orc k (.fo f2 tgt src (i + 1) b) σ2 := by
  obtain ⟨f1, σ1, h1, h2⟩ := toF_some h
  exact fo_turn h1 h2
theorem co_end {elt : Expr} {g : Comprehension} {gs : List Comprehension} {src : Src} {i acc : Nat} (h0 : isZero g.is_async = true) (h : srcAt σ src i = some none) : ev ns orc (k + 1) (.co f elt (g :: gs) src i acc) σ = some (.f f, σ) := by
  show (match isZero g.is_async with
    | false => none
    | true => match srcAt σ src i with
      | none => none
      | some none => some (Res.f f, σ)
      | some (some it) => _) = _
  rw [h0, h]
theorem co_no {elt : Expr} {g : Comprehension} {gs : List Comprehension} {src : Src} {i acc : Nat} {B : Bool} (h0 : isZero g.is_async = true) (h1 : foAs (ev ns orc k) f g.target src i σ = some (.f f1, σ1)) (h2 : ev ns orc k (.ifs f1 g.ifs) σ1 = some (.b B, σ2)) (hB : B = false) :
    ev ns orc (k + 1) (.co f elt (g :: gs) src i acc) σ = ev ns orc k (.co f1 elt (g :: gs) src (i + 1) acc) σ2 := by
  subst hB
  obtain ⟨it, e, h1⟩ := foAs_some h1
  show (match isZero g.is_async with
    | false => none
    | true => match srcAt σ src i with
      | none => none
      | some none => some (Res.f f, σ)
      | some (some it) => toF (asItem (ev ns orc k) f g.target it σ) fun f σ => toB (ev ns orc k (.ifs f g.ifs) σ) _) = _
  rw [h0, e]
  show toF (asItem (ev ns orc k) f g.target it σ) _ = _
  rw [h1]
  show toB (ev ns orc k (.ifs f1 g.ifs) σ1) _ = _
  rw [h2]
  rfl
theorem co_yes {elt : Expr} {g : Comprehension} {src : Src} {i acc : Nat} {B : Bool} {v u : AV} (h0 : isZero g.is_async = true) (h1 : foAs (ev ns orc k) f g.target src i σ = some (.f f1, σ1)) (h2 : ev ns orc k (.ifs f1 g.ifs) σ1 = some (.b B, σ2)) (hB : B = true)
    (h3 : ev ns orc k (.e f1 elt) σ2 = some (.v v, σ3)) (h4 : appendV (.obj acc) v σ3 = some (.v u, σ4)) :
    ev ns orc (k + 1) (.co f elt [g] src i acc) σ = ev ns orc k (.co f1 elt [g] src (i + 1) acc) σ4 := by
  subst hB
  obtain ⟨it, e, h1⟩ := foAs_some h1
  show (match isZero g.is_async with
    | false => none
    | true => match srcAt σ src i with
      | none => none
      | some none => some (Res.f f, σ)
      | some (some it) => toF (asItem (ev ns orc k) f g.target it σ) fun f σ => toB (ev ns orc k (.ifs f g.ifs) σ) _) = _
  rw [h0, e]
  show toF (asItem (ev ns orc k) f g.target it σ) _ = _
  rw [h1]
  show toB (ev ns orc k (.ifs f1 g.ifs) σ1) _ = _
  rw [h2]
  show toE (ev ns orc k (.e f1 elt) σ2) (fun v σ => toE (appendV (.obj acc) v σ) fun _ σ => ev ns orc k (.co f1 elt [g] src (i + 1) acc) σ) = _
  rw [h3]
  show toE (appendV (.obj acc) v σ3) _ = _
  rw [h4]
  rfl
theorem append_ok {acc : Nat} {v : AV} {xs : List AV} (h : listAt σ acc = some xs) (hl : xs.length ≤ 1000) : appendV (.obj acc) v σ = some (.v .none, σ.set acc (.list (xs ++ [v]))) := by
  show (match listAt σ acc with
    | some xs => match Nat.ble xs.length 1000 with
      | true => some (Res.v .none, σ.set acc (.list (xs ++ [v])))
      | false => none
    | none => none) = _
  rw [h]
  show (match Nat.ble xs.length 1000 with
      | true => some (Res.v .none, σ.set acc (.list (xs ++ [v])))
      | false => none) = _
  rw [Nat.ble_eq_true_of_le hl]
theorem ts_or_f {x : Expr} {r : List Expr} {B : Bool} (h : ev ns orc k (.t f x) σ = some (.b B, σ1)) (hB : B = false) : ev ns orc (k + 1) (.ts f .Or (x :: r)) σ = ev ns orc k (.ts f .Or r) σ1 := by
  subst hB
  show toB (ev ns orc k (.t f x) σ) _ = _
  rw [h]; rfl
theorem ts_or_t {x : Expr} {r : List Expr} {B : Bool} (h : ev ns orc k (.t f x) σ = some (.b B, σ1)) (hB : B = true) : ev ns orc (k + 1) (.ts f .Or (x :: r)) σ = some (.b true, σ1) := by
  subst hB
  show toB (ev ns orc k (.t f x) σ) _ = _
  rw [h]; rfl
theorem ts_and_t {x : Expr} {r : List Expr} {B : Bool} (h : ev ns orc k (.t f x) σ = some (.b B, σ1)) (hB : B = true) : ev ns orc (k + 1) (.ts f .And (x :: r)) σ = ev ns orc k (.ts f .And r) σ1 := by
  subst hB
  show toB (ev ns orc k (.t f x) σ) _ = _
  rw [h]; rfl
theorem ts_and_f {x : Expr} {r : List Expr} {B : Bool} (h : ev ns orc k (.t f x) σ = some (.b B, σ1)) (hB : B = false) : ev ns orc (k + 1) (.ts f .And (x :: r)) σ = some (.b false, σ1) := by
  subst hB
  show toB (ev ns orc k (.t f x) σ) _ = _
  rw [h]; rfl
theorem ifs_one {x : Expr} {B : Bool} (h : ev ns orc (k + 1) (.t f x) σ = some (.b B, σ1)) : ev ns orc (k + 2) (.ifs f [x]) σ = some (.b B, σ1) := by
  show toB (ev ns orc (k + 1) (.t f x) σ) _ = _
  rw [h]; cases B <;> rfl
theorem t_cmp {l x : Expr} {op : CmpOp} {p : Pos} {a b : AV} {B : Bool} (hm : behindInMarks op x = false) (h1 : ev ns orc (k + 1) (.e f l) σ = some (.v a, σ1)) (h2 : ev ns orc k (.e f x) σ1 = some (.v b, σ2)) (h3 : cmpV op a b σ2 = some B) :
    ev ns orc (k + 2) (.t f (.Compare l [op] [x] p)) σ = some (.b B, σ2) := by
  show toE (ev ns orc (k + 1) (.e f l) σ) (fun a σ => ev ns orc (k + 1) (.tch f a [op] [x]) σ) = _
  rw [h1]
  show (match behindInMarks op x with
    | true => none
    | false => toE (ev ns orc k (.e f x) σ1) _) = _
  rw [hm]
  show toE (ev ns orc k (.e f x) σ1) _ = _
  rw [h2]
  show (match cmpV op a b σ2 with
    | none => none
    | some b => some (Res.b b, σ2)) = _
  rw [h3]
theorem e_cmp {l x : Expr} {op : CmpOp} {p : Pos} {a b : AV} {B : Bool} (hm : behindInMarks op x = false) (h1 : ev ns orc (k + 1) (.e f l) σ = some (.v a, σ1)) (h2 : ev ns orc k (.e f x) σ1 = some (.v b, σ2)) (h3 : cmpV op a b σ2 = some B) :
    ev ns orc (k + 2) (.e f (.Compare l [op] [x] p)) σ = some (.v (.bool B), σ2) := by
  show toE (ev ns orc (k + 1) (.e f l) σ) (fun a σ => ev ns orc (k + 1) (.ch f a [op] [x]) σ) = _
  rw [h1]
  show (match behindInMarks op x with
    | true => none
    | false => toE (ev ns orc k (.e f x) σ1) _) = _
  rw [hm]
  show toE (ev ns orc k (.e f x) σ1) _ = _
  rw [h2]
  show (match cmpV op a b σ2 with
    | some b => some (Res.v (.bool b), σ2)
    | none => none) = _
  rw [h3]
theorem e_ifexp_t {t a b : Expr} {p : Pos} {B : Bool} (h : ev ns orc k (.t f t) σ = some (.b B, σ1)) (hB : B = true) : ev ns orc (k + 1) (.e f (.IfExp t a b p)) σ = ev ns orc k (.e f a) σ1 := by
  subst hB
  show toB (ev ns orc k (.t f t) σ) _ = _
  rw [h]; rfl
theorem e_ifexp_f {t a b : Expr} {p : Pos} {B : Bool} (h : ev ns orc k (.t f t) σ = some (.b B, σ1)) (hB : B = false) : ev ns orc (k + 1) (.e f (.IfExp t a b p)) σ = ev ns orc k (.e f b) σ1 := by
  subst hB
  show toB (ev ns orc k (.t f t) σ) _ = _
  rw [h]; rfl
/-- the plain assignments -/
noncomputable def plainX : Expr → Bool
  | .Tuple .. => false
  | .SetComp .. => false
  | .DictComp .. => false
  | .ListComp .. => false
  | _ => true
theorem s_asg {t x : Expr} {p : Pos} {v : AV} (hx : plainX x = true) (ht : tgtB t = true) (h1 : ev ns orc k (.e f x) σ = some (.v v, σ1)) (h2 : ev ns orc k (.as f t v) σ1 = some (.f f2, σ2)) : ev ns orc (k + 1) (.s f (.Assign [t] x p)) σ = some (.fl f2 .next, σ2) := by
  have e : ev ns orc (k + 1) (.s f (.Assign [t] x p)) σ = (match tgtB t with
      | true => toE (ev ns orc k (.e f x) σ) fun v σ => toF (ev ns orc k (.as f t v) σ) fun f' σ => some (Res.fl f' .next, σ)
      | false => none) := by
    cases x <;> first | (cases hx; done) | rfl
  rw [e, ht]
  show toE (ev ns orc k (.e f x) σ) _ = _
  rw [h1]
  show toF (ev ns orc k (.as f t v) σ1) _ = _
  rw [h2]; rfl
theorem comp_e {ih : EvT} {elt : Expr} {g : Comprehension} {gs : List Comprehension} {sc : Scope} {s : Src} (h1 : isFn sc.kind = true) (h2 : compNames f sc.names sc.names = true) (h3 : isZero g.is_async = true) (h4 : ih (.it f g.iter) σ = some (.src s, σ1))
    (h5 : ih (.co (compFrame sc.names f) elt (g :: gs) s 0 σ1.length) (σ1 ++ [.list []]) = some (.f f', σ')) : compE ih f elt (g :: gs) sc σ = some (.v (.obj σ1.length), σ') := by
  unfold compE
  rw [h1]; simp only
  rw [h2]; simp only
  rw [h3]; simp only
  rw [h4]
  show toF (ih (.co (compFrame sc.names f) elt (g :: gs) s 0 σ1.length) (σ1 ++ [.list []])) _ = _
  rw [h5]; rfl
theorem e_lc {elt : Expr} {gs : List Comprehension} {sc : Scope} {p : Pos} {r : Res × H} (h : compE (ev ns orc k) f elt gs sc σ = some r) : ev ns orc (k + 1) (.e f (.ListComp elt gs sc p)) σ = some r := h
theorem s_asg_lc {t elt : Expr} {gs : List Comprehension} {sc : Scope} {p p' : Pos} {v : AV} (ht : isNameB t = true) (h1 : compE (ev ns orc k) f elt gs sc σ = some (.v v, σ1)) (h2 : ev ns orc k (.as f t v) σ1 = some (.f f2, σ2)) :
    ev ns orc (k + 1) (.s f (.Assign [t] (.ListComp elt gs sc p) p')) σ = some (.fl f2 .next, σ2) := by
  show (match isNameB t with
      | true => toE (compE (ev ns orc k) f elt gs sc σ) fun v σ => toF (ev ns orc k (.as f t v) σ) fun f' σ => some (Res.fl f' .next, σ)
      | false => none) = _
  rw [ht, h1]
  show toF (ev ns orc k (.as f t v) σ1) _ = _
  rw [h2]; rfl
end

/-! what is known may be turned -/
noncomputable def LeV (a b : AV) : Prop := ∀ (C : Cx) ρ u, VR C ρ a u → VR C ρ b u
theorem LeV.rfl {a : AV} : LeV a a := fun _ _ _ h => h
noncomputable def LeA (a b : AO) : Prop := ∀ (C : Cx) ρ o, OR C ρ a o → OR C ρ b o
theorem LeA.rfl {a : AO} : LeA a a := fun _ _ _ h => h
noncomputable def LeVs : List AV → List AV → Prop
  | [], [] => True
  | a :: x, b :: y => LeV a b ∧ LeVs x y
  | _, _ => False
theorem LeVs.vrs : ∀ {x y : List AV}, LeVs x y → ∀ {C : Cx} {ρ us}, VRs C ρ x us → VRs C ρ y us
  | [], [], _, _, _, _, h => h
  | _ :: _, _ :: _, h, _, _, _, ⟨u, us, e, q, t⟩ => ⟨u, us, e, h.1 _ _ _ q, LeVs.vrs h.2 t⟩
  | [], _ :: _, h, _, _, _, _ => h.elim
  | _ :: _, [], h, _, _, _, _ => h.elim
theorem LeA.list {x y : List AV} (h : LeVs x y) : LeA (.list x) (.list y) := fun _ _ _ ⟨vs, n, e, q⟩ => ⟨vs, n, e, h.vrs q⟩
theorem LeV.int {i j : Int} {a b : Kn} (e : i = j) (h : knOk i a → knOk i b) : LeV (.int i a) (.int j b) := by
  subst e; exact fun _ _ _ q => ⟨q.1, h q.2⟩
theorem LeV.bytes {l l' : List UInt8} {n m : Nat} (e : l = l') (h : l.length ≤ n → l.length ≤ m) : LeV (.bytes l n) (.bytes l' m) := by
  subst e; exact fun _ _ _ q => ⟨q.1, h q.2⟩
structure LeF (f g : AF) : Prop where
  names : g.names = f.names
  len : g.vals.length = f.vals.length
  vals : ∀ (i : Nat) (w : AV), g.vals[i]? = some (some w) → ∃ v, f.vals[i]? = some (some v) ∧ LeV v w
structure LeH (σ σ' : H) : Prop where
  len : σ'.length = σ.length
  objs : ∀ (i : Nat) (w : AO), σ'[i]? = some w → ∃ v, σ[i]? = some v ∧ LeA v w
theorem LeF.rfl {f : AF} : LeF f f := ⟨by rfl, by rfl, fun _ w h => ⟨w, h, LeV.rfl⟩⟩
theorem LeH.rfl {σ : H} : LeH σ σ := ⟨by rfl, fun _ w h => ⟨w, h, LeA.rfl⟩⟩
/-- one object is turned -/
theorem LeH.one {σ : H} {a b : AO} (k : Nat) (h : σ[k]? = some a) (q : LeA a b) : LeH σ (σ.set k b) := by
  refine ⟨List.length_set, fun i w e => ?_⟩
  by_cases hi : k = i
  · subst hi
    rw [List.getElem?_set_self (List.getElem?_eq_some_iff.mp h).1] at e
    cases e; exact ⟨a, h, q⟩
  · rw [List.getElem?_set_ne hi] at e
    exact ⟨w, e, LeA.rfl⟩
theorem LeF.one {names : List (Str × NameKind)} {vals : List (Option AV)} {a b : AV} (k : Nat) (h : vals[k]? = some (some a)) (q : LeV a b) : LeF ⟨names, vals⟩ ⟨names, vals.set k (some b)⟩ := by
  refine ⟨by rfl, List.length_set, fun i w e => ?_⟩
  by_cases hi : k = i
  · subst hi
    have e' : (vals.set k (some b))[k]? = some (some w) := e
    rw [List.getElem?_set_self (List.getElem?_eq_some_iff.mp h).1] at e'
    cases e'; exact ⟨a, h, q⟩
  · have e' : (vals.set k (some b))[i]? = some (some w) := e
    rw [List.getElem?_set_ne hi] at e'
    exact ⟨w, e', LeV.rfl⟩
/-- a value is forgotten -/
theorem LeF.drop {names : List (Str × NameKind)} {vals : List (Option AV)} (k : Nat) : LeF ⟨names, vals⟩ ⟨names, vals.set k none⟩ := by
  refine ⟨by rfl, List.length_set, fun i w e => ?_⟩
  have e' : (vals.set k none)[i]? = some (some w) := e
  by_cases hi : k = i
  · subst hi
    by_cases hl : k < vals.length
    · rw [List.getElem?_set_self hl] at e'; cases e'
    · rw [List.getElem?_eq_none (by rw [List.length_set]; omega)] at e'; cases e'
  · rw [List.getElem?_set_ne hi] at e'
    exact ⟨w, e', LeV.rfl⟩

section
variable {C : Cx} {n : Nat} {f f' f1 f2 g : AF} {σ σ' σ1 σ2 : H} {ρ : List Addr} {h : Heap} {env : Env}
theorem LeH.rr (L : LeH σ σ1) (R : RR C ρ σ h) : RR C ρ σ1 h := by
  refine ⟨by rw [R.len, L.len], R.nd, R.base, R.new, fun k a ao e e' => ?_⟩
  obtain ⟨v, ev, q⟩ := L.objs k ao e'
  obtain ⟨o, ho, hr⟩ := R.obj k a v e ev
  exact ⟨o, ho, q _ _ _ hr⟩
theorem LeF.fr (L : LeF f g) (F : FR C ρ f env h) : FR C ρ g env h := by
  refine ⟨F.kind, F.glob, F.blt, by rw [L.names]; exact F.kd, by rw [L.names, L.len]; exact F.len, ?_, ?_, F.apart, F.fresh, by rw [L.names]; exact F.cfresh⟩
  · obtain ⟨m, hm, hv⟩ := F.loc
    refine ⟨m, hm, fun x i v e e' => ?_⟩
    rw [L.names] at e
    obtain ⟨w, ew, q⟩ := L.vals i v e'
    obtain ⟨u, a, b⟩ := hv x i w e ew
    exact ⟨u, a, q _ _ _ b⟩
  · intro x i k e hk
    rw [L.names] at e
    obtain ⟨c, vo, e1, hc, hv⟩ := F.cel x i k e hk
    refine ⟨c, vo, e1, hc, fun v e' => ?_⟩
    obtain ⟨w, ew, q⟩ := L.vals i v e'
    obtain ⟨u, a, b⟩ := hv w ew
    exact ⟨u, a, q _ _ _ b⟩
theorem M_le {sts : List Stmt} {w : Fl} (L : LeF f g) (LH : LeH σ σ1) (m : Mean C n (.ss g sts) σ1 (.fl f' w) σ') : Mean C n (.ss f sts) σ (.fl f' w) σ' := by
  obtain ⟨hn, m⟩ := m
  refine ⟨hn.trans L.names, fun env A ρ h tk Q hA R F hQ => m env A ρ h tk Q hA (LH.rr R) (L.fr F) (hQ.names L.names)⟩
theorem M_cons {s : Stmt} {r : List Stmt} {w : Fl} (m1 : Mean C n (.s f s) σ (.fl f1 .next) σ1) (m2 : Mean C n (.ss f1 r) σ1 (.fl f2 w) σ2) : Mean C (n + 1) (.ss f (s :: r)) σ (.fl f2 w) σ2 := by
  obtain ⟨hn1, m1⟩ := m1
  obtain ⟨hn2, m2⟩ := m2
  refine ⟨hn2.trans hn1, fun env A ρ h tk Q hA R F hQ => wpAny_execs_cons (m1 env A ρ h tk _ (hA.less (Nat.le_succ n)) R F fun ρ1 h1 tk1 fl K1 R1 F1 q1 => ?_)⟩
  cases q1
  exact m2 env A ρ1 h1 tk1 _ (hA.less (Nat.le_succ n)) R1 F1 ((hQ.after K1).names hn1)
variable {orc : Orc} {N : Nat}
/-- a segment by the evaluator, then the rest -/
theorem M_app (S : SF C) (h40 : 40 ≤ N) (hO : OSnd C orc N) {w : Fl} : ∀ (a b : List Stmt) (k : Nat) (f : AF) (σ : H), ev C.ns orc (k + 1 + a.length) (.ss f a) σ = some (.fl f1 .next, σ1) → Mean C (k + 1 + N) (.ss f1 b) σ1 (.fl f2 w) σ2 → Mean C (k + 1 + a.length + N) (.ss f (a ++ b)) σ (.fl f2 w) σ2
  | [], b, k, f, σ, e, m => by cases e; exact m
  | s :: a, b, k, f, σ, e, m => by
    have e' : ev C.ns orc (k + 1 + a.length + 1) (.ss f (s :: a)) σ = some (.fl f1 .next, σ1) := e
    obtain ⟨f3, w3, σ3, e1, e⟩ := toFl_some e'
    cases w3 with
    | next =>
      have m1 := snd_ev S h40 hO _ _ _ _ _ e1
      have := M_cons m1 (M_app S h40 hO a b k f3 σ3 e m)
      rw [show k + 1 + (s :: a).length + N = k + 1 + a.length + N + 1 by simp only [List.length_cons]; omega]
      exact this
    | brk => cases e
    | cont => cases e
    | ret v => cases e
/-- a call, by its body's meaning -/
theorem M_ca (S : SF C) {i : Nat} {args : List AV} {fn : Fn} {v : AV} (hi : Nat.blt i 23 = true) (hf : fnOf i = some fn) (hok : fnOk fn = true) (hb : bindAll ⟨fn.scope.names, freshVals fn.scope.names⟩ fn.params.args args = some f)
    (m : Mean C n (.ss f fn.body) σ (.fl f' (.ret v)) σ') : Mean C (n + 1) (.ca i args) σ (.v v) σ' := by
  classical
  let ih : EvT := fun q s => if q = .ss f fn.body ∧ s = σ then some (.fl f' (.ret v), σ') else none
  have hih : Snd C n ih := by
    intro q s r s' e
    have e2 : (if q = .ss f fn.body ∧ s = σ then some (Res.fl f' (.ret v), σ') else none) = some (r, s') := e
    split at e2
    · rename_i hc
      obtain ⟨rfl, rfl⟩ := hc
      cases e2; exact m
    · cases e2
  refine snd_stCa S hih ?_
  unfold stCa
  rw [hi]; simp only
  rw [hf]; simp only
  rw [hok]; simp only
  rw [hb]; simp only
  show toFl (if (Req.ss f fn.body) = .ss f fn.body ∧ σ = σ then some (Res.fl f' (.ret v), σ') else none) _ = _
  rw [if_pos ⟨rfl, rfl⟩]
  rfl
theorem backV {ρ ρ' : List Addr} (hp : ρ <+: ρ') : ∀ {x : AV} {u0 u : Value}, VR C ρ x u0 → VR C ρ' x u → VR C ρ x u := by
  intro x u0 u h0 h
  cases x with
  | obj j =>
    obtain ⟨a, e, _⟩ := h0
    obtain ⟨b, eb, rfl⟩ := h
    refine ⟨b, ?_, rfl⟩
    rw [pre_get hp e] at eb
    rw [e, eb]
  | _ => exact h
theorem backVs {ρ ρ' : List Addr} (hp : ρ <+: ρ') : ∀ {xs : List AV} {us0 us : List Value}, VRs C ρ xs us0 → VRs C ρ' xs us → VRs C ρ xs us
  | [], _, _, _, h => h
  | _ :: _, _, _, ⟨_, _, _, a0, t0⟩, ⟨u, us, e, a, t⟩ => ⟨u, us, e, backV hp a0 a, backVs hp t0 t⟩
theorem backO {ρ ρ' : List Addr} (hp : ρ <+: ρ') {ao : AO} {o0 o : Obj} (h0 : OR C ρ ao o0) (h : OR C ρ' ao o) : OR C ρ ao o := by
  cases ao with
  | list xs =>
    obtain ⟨vs0, n0, e0, q0⟩ := h0
    obtain ⟨vs, n, e, q⟩ := h
    exact ⟨vs, n, e, backVs hp q0 q⟩
  | tup xs =>
    obtain ⟨vs0, n0, e0, q0⟩ := h0
    obtain ⟨vs, n, e, q⟩ := h
    exact ⟨vs, n, e, backVs hp q0 q⟩
  | _ => exact h
/-- what a call laid and no one knows of may be forgotten -/
theorem Mean.lessN {q : Nat} {i : Nat} {args : List AV} {v : AV} (m : Mean C n (.ca i args) σ (.v v) σ') (h : n ≤ q) : Mean C q (.ca i args) σ (.v v) σ' :=
  fun A ρ h' tk Q us hA R a hQ => m A ρ h' tk Q us (hA.less h) R a hQ
theorem M_forget {i : Nat} {args : List AV} {v v' : AV} (t : List AO) (hv : ∀ ρ u us, VRs C ρ args us → VR C ρ v u → ∀ ρ', VR C ρ' v' u) (m : Mean C n (.ca i args) σ (.v v) (σ ++ t)) : Mean C n (.ca i args) σ (.v v') σ := by
  intro A ρ h tk Q us hA R a hQ
  refine m A ρ h tk Q us hA R a fun ρ' h' tk' u K R' q => ?_
  refine hQ ρ h' tk' u ⟨List.prefix_refl _, fun _ x => .inl x, K.life, fun b o hb hP e => K.keep b o hb hP e⟩ ?_ (hv ρ' u us (a.mono K.pre) q ρ)
  refine ⟨R.len, R.nd, R'.base, R.new, fun k a ao e e' => ?_⟩
  have hl := (List.getElem?_eq_some_iff.mp e').1
  obtain ⟨o, ho, hr⟩ := R'.obj k a ao (pre_get K.pre e) (by rw [List.getElem?_append_left hl]; exact e')
  obtain ⟨o0, _, hr0⟩ := R.obj k a ao e e'
  exact ⟨o, ho, backO K.pre hr0 hr⟩
end
end Mine
set_option maxRecDepth 100000
open PySem PySem.W PyProof.Rows
namespace Mine

/-! parts of the program's text -/
noncomputable def fnBo (i : Nat) : List Stmt := match fnOf i with
  | some fn => fn.body
  | none => []
noncomputable def fnNm (i : Nat) : List (Str × NameKind) := match fnOf i with
  | some fn => fn.scope.names
  | none => []
noncomputable def noP : Pos := ⟨0, 0, 0, 0⟩
noncomputable def noE : Expr := .Constant .none 0 noP
noncomputable def noS : Stmt := .Return none noP
noncomputable def nthS (l : List Stmt) (j : Nat) : Stmt := match l[j]? with
  | some s => s
  | none => noS
noncomputable def nthE (l : List Expr) (j : Nat) : Expr := match l[j]? with
  | some s => s
  | none => noE
noncomputable def sT : Stmt → Expr
  | .Assign [t] _ _ => t
  | .For t _ _ _ _ => t
  | .If t _ _ _ => t
  | .While t _ _ _ => t
  | _ => noE
noncomputable def sX : Stmt → Expr
  | .Assign _ x _ => x
  | .For _ x _ _ _ => x
  | .Return (some x) _ => x
  | .Expr x _ => x
  | .AugAssign _ _ x _ => x
  | _ => noE
noncomputable def sB : Stmt → List Stmt
  | .For _ _ b _ _ => b
  | .If _ a _ _ => a
  | .While _ b _ _ => b
  | _ => []
noncomputable def sO : Stmt → List Stmt
  | .If _ _ b _ => b
  | _ => []
noncomputable def sP : Stmt → Pos
  | .Assign _ _ p => p
  | .For _ _ _ _ p => p
  | .If _ _ _ p => p
  | .While _ _ _ p => p
  | .Return _ p => p
  | _ => noP
noncomputable def eP : Expr → Pos
  | .BinOp _ _ _ p => p
  | .UnaryOp _ _ p => p
  | .BoolOp _ _ p => p
  | .IfExp _ _ _ p => p
  | .Compare _ _ _ p => p
  | .ListComp _ _ _ p => p
  | .Call _ _ _ p => p
  | .Subscript _ _ p => p
  | _ => noP
noncomputable def eL : Expr → Expr
  | .BinOp l _ _ _ => l
  | .Compare l _ _ _ => l
  | .IfExp t _ _ _ => t
  | .Call g _ _ _ => g
  | .ListComp e _ _ _ => e
  | .Subscript o _ _ => o
  | .UnaryOp _ x _ => x
  | _ => noE
noncomputable def eR : Expr → Expr
  | .BinOp _ _ r _ => r
  | .Compare _ _ [x] _ => x
  | .IfExp _ a _ _ => a
  | .Subscript _ i _ => i
  | _ => noE
noncomputable def eO : Expr → Expr
  | .IfExp _ _ b _ => b
  | _ => noE
noncomputable def eAs : Expr → List Expr
  | .Call _ as _ _ => as
  | .BoolOp _ vs _ => vs
  | .Tuple es _ _ => es
  | .Compare _ _ xs _ => xs
  | _ => []
noncomputable def eGs : Expr → List Comprehension
  | .ListComp _ gs _ _ => gs
  | _ => []
noncomputable def noSc : Scope := (match fnOf 0 with
  | some fn => fn.scope
  | none => default)
noncomputable def eSc : Expr → Scope
  | .ListComp _ _ sc _ => sc
  | _ => noSc
noncomputable def noG : Comprehension := ⟨noE, noE, [], 0⟩
noncomputable def nthG (l : List Comprehension) (j : Nat) : Comprehension := match l[j]? with
  | some s => s
  | none => noG

/-! THE TABLES' RUNS -/
noncomputable def rowL : Nat → List (Int × Int)
  | 0 => [(173, 173), (847, 847), (6150, 6150), (6155, 6157), (8203, 8205), (8288, 8288), (65024, 65039), (65279, 65279)]
  | 1 => [(32, 32)]
  | 2 => [(64976, 65007), (65534, 65535), (131070, 131071), (196606, 196607), (262142, 262143), (327678, 327679), (393214, 393215), (458750, 458751), (524286, 524287), (589822, 589823), (655358, 655359), (720894, 720895), (786430, 786431), (851966, 851967), (917502, 917503), (983038, 983039), (1048574, 1048575), (1114110, 1114111)]
  | 3 => [(65529, 65533)]
  | 4 => [(12272, 12283)]
  | 5 => [(832, 833), (8206, 8207), (8234, 8238), (8298, 8303)]
  | 6 => [(917505, 917505), (917536, 917631)]
  | _ => []
noncomputable def intA : AV → Option Int
  | .int i .any => some i
  | _ => none
noncomputable def pairO : Option AO → Option (Int × Int)
  | some (.tup [a, b]) => match intA a with
    | some i => match intA b with
      | some j => some (i, j)
      | none => none
    | none => none
  | _ => none
noncomputable def tupAt (σ : H) : AV → Option (Int × Int)
  | .obj t => pairO σ[t]?
  | _ => none
noncomputable def rowAt (σ : H) : List AV → Option (List (Int × Int))
  | [] => some []
  | v :: r => match tupAt σ v with
    | some p => match rowAt σ r with
      | some l => some (p :: l)
      | none => none
    | none => none
noncomputable def eqRow : List (Int × Int) → List (Int × Int) → Bool
  | [], [] => true
  | (a, b) :: x, (c, d) :: y => match a == c with
    | true => match b == d with
      | true => eqRow x y
      | false => false
    | false => false
  | _, _ => false
noncomputable def findT (l : List (Int × Int)) : Nat → Nat → Option Nat
  | 0, _ => none
  | n + 1, j => match eqRow l (rowL j) with
    | true => some j
    | false => findT l n (j + 1)
noncomputable def tabAt (σ : H) (k : Nat) : Option Nat := match listAt σ k with
  | some xs => match rowAt σ xs with
    | some l => findT l 7 0
    | none => none
  | none => none
theorem eqRow_eq : ∀ {x y : List (Int × Int)}, eqRow x y = true → x = y
  | [], [], _ => rfl
  | [], _ :: _, h => by cases h
  | _ :: _, [], h => by cases h
  | (a, b) :: x, (c, d) :: y, h => by
    unfold eqRow at h
    split at h
    · split at h
      · rename_i _ h1 _ h2
        rw [eqRow_eq h, eq_of_beq h1, eq_of_beq h2]
      · cases h
    · cases h
theorem findT_eq {l : List (Int × Int)} {j : Nat} : ∀ n i, findT l n i = some j → l = rowL j ∧ j < i + n
  | 0, _, h => by cases h
  | n + 1, i, h => by
    unfold findT at h
    split at h
    · rename_i h1; cases h; exact ⟨eqRow_eq h1, by omega⟩
    · have := findT_eq n (i + 1) h; exact ⟨this.1, by omega⟩
/-- object k is a list of the pairs l -/
noncomputable def RowIs (σ : H) (k : Nat) (l : List (Int × Int)) : Prop := ∃ xs, listAt σ k = some xs ∧ rowAt σ xs = some l
theorem tabAt_row {σ : H} {k j : Nat} (h : tabAt σ k = some j) : RowIs σ k (rowL j) ∧ j < 7 := by
  unfold tabAt at h
  split at h
  · rename_i xs hx
    split at h
    · rename_i l hl
      obtain ⟨rfl, hj⟩ := findT_eq _ _ h
      exact ⟨⟨xs, hx, hl⟩, by omega⟩
    · cases h
  · cases h
theorem listAt_app {σ t : H} {k : Nat} {xs : List AV} (h : listAt σ k = some xs) : listAt (σ ++ t) k = some xs := by
  unfold listAt at h ⊢
  split at h
  · rename_i ys e
    rw [List.getElem?_append_left (List.getElem?_eq_some_iff.mp e).1, e]; exact h
  · cases h
theorem intA_eq {a : AV} {i : Int} (h : intA a = some i) : a = .int i .any := by
  unfold intA at h
  split at h
  · cases h; rfl
  · cases h
theorem tupAt_eq {σ : H} {v : AV} {p : Int × Int} (h : tupAt σ v = some p) : ∃ t, v = .obj t ∧ σ[t]? = some (.tup [.int p.1 .any, .int p.2 .any]) := by
  unfold tupAt at h
  split at h
  · rename_i t
    refine ⟨t, rfl, ?_⟩
    unfold pairO at h
    split at h
    · rename_i a b e
      split at h
      · rename_i i hi
        split at h
        · rename_i j hj
          cases h
          rw [e, intA_eq hi, intA_eq hj]
        · cases h
      · cases h
    · cases h
  · cases h
theorem tupAt_app {σ t : H} {v : AV} {p : Int × Int} (h : tupAt σ v = some p) : tupAt (σ ++ t) v = some p := by
  obtain ⟨k, rfl, e⟩ := tupAt_eq h
  show pairO (σ ++ t)[k]? = _
  rw [List.getElem?_append_left (List.getElem?_eq_some_iff.mp e).1]; exact h
theorem rowAt_app {σ t : H} : ∀ {xs : List AV} {l : List (Int × Int)}, rowAt σ xs = some l → rowAt (σ ++ t) xs = some l
  | [], _, h => h
  | v :: r, l, h => by
    unfold rowAt at h ⊢
    split at h
    · rename_i p hp
      split at h
      · rename_i l' hl
        rw [tupAt_app hp, rowAt_app hl]; exact h
      · cases h
    · cases h
theorem RowIs.app {σ : H} {k : Nat} {l : List (Int × Int)} (h : RowIs σ k l) (t : H) : RowIs (σ ++ t) k l := by
  obtain ⟨xs, h1, h2⟩ := h
  exact ⟨xs, listAt_app h1, rowAt_app h2⟩
theorem rowAt_get {σ : H} : ∀ {xs : List AV} {l : List (Int × Int)}, rowAt σ xs = some l → ∀ (i : Nat), match l[i]? with
    | some p => ∃ t, xs[i]? = some (.obj t) ∧ σ[t]? = some (.tup [.int p.1 .any, .int p.2 .any])
    | none => xs[i]? = none
  | [], _, h, i => by cases h; simp
  | v :: r, l, h, i => by
    unfold rowAt at h
    split at h
    · rename_i p hp
      split at h
      · rename_i l' hl
        cases h
        cases i with
        | zero =>
          obtain ⟨t, rfl, e⟩ := tupAt_eq hp
          exact ⟨t, rfl, e⟩
        | succ i => simpa using rowAt_get hl i
      · cases h
    · cases h
theorem rowAt_len {σ : H} : ∀ {xs : List AV} {l : List (Int × Int)}, rowAt σ xs = some l → xs.length = l.length
  | [], _, h => by cases h; rfl
  | v :: r, l, h => by
    unfold rowAt at h
    split at h
    · split at h
      · rename_i l' hl; cases h; simp [rowAt_len hl]
      · cases h
    · cases h
section
variable {ns : List Int} {orc : Orc} {k : Nat} {f f1 : AF} {σ : H}
/-- a turn over a row: the pair goes to two names -/
theorem row_turn {l : List (Int × Int)} {r i : Nat} {a b : Int} {tgt : Expr} {es : List Expr} {kk : Nat} {p : Pos} (hr : RowIs σ r l) (hi : l[i]? = some (a, b)) (ht : tgt = .Tuple es kk p) (hes : es.length = 2)
    (h : ev ns orc k (.asn f es [.int a .any, .int b .any]) σ = some (.f f1, σ)) : foAs (ev ns orc (k + 1)) f tgt (.lst r) i σ = some (.f f1, σ) := by
  obtain ⟨xs, hx, hl⟩ := hr
  have := rowAt_get hl i
  rw [hi] at this
  obtain ⟨t, e1, e2⟩ := this
  subst ht
  unfold foAs srcAt
  simp only
  rw [hx]; simp only
  rw [e1]; simp only
  show (match σ[t]? with
      | some (.tup xs) => match Nat.beq xs.length es.length with
        | true => ev ns orc k (.asn f es xs) σ
        | false => none
      | _ => none) = _
  rw [e2]; simp only
  rw [hes]
  exact h
theorem row_end {l : List (Int × Int)} {r i : Nat} (hr : RowIs σ r l) (hi : l.length ≤ i) : srcAt σ (.lst r) i = some none := by
  obtain ⟨xs, hx, hl⟩ := hr
  unfold srcAt
  simp only
  rw [hx]; simp only
  rw [List.getElem?_eq_none (by rw [rowAt_len hl]; exact hi)]
end
end Mine
set_option maxRecDepth 100000
open PySem PySem.W PyProof.Rows
namespace Mine
noncomputable def eK : Expr → Nat
  | .Tuple _ k _ => k
  | _ => 0
noncomputable def tP : Expr → Pos
  | .Tuple _ _ p => p
  | .Name _ p => p
  | _ => noP
noncomputable def nmI : Expr → Str
  | .Name id _ => id
  | _ => dbgS
noncomputable def opB : Expr → Operator
  | .BinOp _ op _ _ => op
  | _ => .Add
noncomputable def fnD (i : Nat) : Fn := match fnOf i with
  | some fn => fn
  | none => ⟨dbgS, ⟨[], [], none, [], [], none, []⟩, [], noSc⟩
section
variable {ns : List Int} {orc : Orc} {k : Nat} {f f' f1 f2 : AF} {σ σ' σ1 σ2 σ3 σ4 : H}
theorem e_bin {l r : Expr} {op : Operator} {p : Pos} {a b v : AV} (h1 : ev ns orc k (.e f l) σ = some (.v a, σ1)) (h2 : ev ns orc k (.e f r) σ1 = some (.v b, σ2)) (h3 : binV op (isOne l) a b σ2 = some (v, σ3)) :
    ev ns orc (k + 1) (.e f (.BinOp l op r p)) σ = some (.v v, σ3) := by
  show toE (ev ns orc k (.e f l) σ) _ = _
  rw [h1]
  show toE (ev ns orc k (.e f r) σ1) _ = _
  rw [h2]
  show giveV (binV op (isOne l) a b σ2) = _
  rw [h3]; rfl
theorem e_call {id : Str} {q p : Pos} {args : List Expr} {a : AV} {vs : List AV} {r : Res × H} (h1 : ev ns orc k (.e f (.Name id q)) σ = some (.v a, σ1)) (h2 : ev ns orc k (.es f args) σ1 = some (.vs vs, σ2)) (h3 : applyV orc (ev ns orc k) a vs σ2 = some r) :
    ev ns orc (k + 1) (.e f (.Call (.Name id q) args [] p)) σ = some r := by
  show toE (ev ns orc k (.e f (.Name id q)) σ) _ = _
  rw [h1]
  show toVs (ev ns orc k (.es f args) σ1) _ = _
  rw [h2]; exact h3
theorem es_one {x : Expr} {v : AV} (hs : isStarredB x = false) (h : ev ns orc (k + 1) (.e f x) σ = some (.v v, σ1)) : ev ns orc (k + 2) (.es f [x]) σ = some (.vs [v], σ1) := by
  show (match isStarredB x with
    | true => none
    | false => toE (ev ns orc (k + 1) (.e f x) σ) _) = _
  rw [hs]
  show toE (ev ns orc (k + 1) (.e f x) σ) _ = _
  rw [h]; rfl
theorem e_item {o i : Expr} {p : Pos} {a b v : AV} (hi : isSliceB i = false) (h1 : ev ns orc k (.e f o) σ = some (.v a, σ1)) (h2 : ev ns orc k (.e f i) σ1 = some (.v b, σ2)) (h3 : itemV a b σ2 = some v) :
    ev ns orc (k + 1) (.e f (.Subscript o i p)) σ = some (.v v, σ2) := by
  have e : ev ns orc (k + 1) (.e f (.Subscript o i p)) σ = toE (ev ns orc k (.e f o) σ) fun a σ => toE (ev ns orc k (.e f i) σ) fun b σ => match itemV a b σ with
      | some v => some (.v v, σ)
      | none => none := by
    cases i <;> first | (cases hi; done) | rfl
  rw [e, h1]
  show toE (ev ns orc k (.e f i) σ1) _ = _
  rw [h2]
  show (match itemV a b σ2 with
      | some v => some (Res.v v, σ2)
      | none => none) = _
  rw [h3]
theorem it_list {x : Expr} {j : Nat} {xs : List AV} (h0 : callName x = none) (h1 : isSetB x = false) (h2 : ev ns orc k (.e f x) σ = some (.v (.obj j), σ1)) (h3 : listAt σ1 j = some xs) : ev ns orc (k + 1) (.it f x) σ = some (.src (.lst j), σ1) := by
  show (match callName x with
    | some (g, args) => _
    | none => match isSetB x with
      | true => none
      | false => toE (ev ns orc k (.e f x) σ) fun v σ => giveS (itV v σ) σ) = _
  rw [h0]; simp only
  rw [h1]; simp only
  rw [h2]
  show giveS (match listAt σ1 j with
    | some _ => some (Src.lst j)
    | none => none) σ1 = _
  rw [h3]; rfl
theorem s_ret {x : Expr} {p : Pos} {v : AV} (h : ev ns orc k (.e f x) σ = some (.v v, σ1)) : ev ns orc (k + 1) (.s f (.Return (some x) p)) σ = some (.fl f (.ret v), σ1) := by
  show toE (ev ns orc k (.e f x) σ) _ = _
  rw [h]; rfl
theorem ca_ret {i : Nat} {args : List AV} {fn : Fn} {v : AV} (hi : Nat.blt i 23 = true) (hf : fnOf i = some fn) (hok : fnOk fn = true) (hb : bindAll ⟨fn.scope.names, freshVals fn.scope.names⟩ fn.params.args args = some f)
    (h : ev ns orc k (.ss f fn.body) σ = some (.fl f' (.ret v), σ1)) : ev ns orc (k + 1) (.ca i args) σ = some (.v v, σ1) := by
  show stCa (ev ns orc k) i args σ = _
  unfold stCa
  rw [hi]; simp only
  rw [hf]; simp only
  rw [hok]; simp only
  rw [hb]; simp only
  rw [h]; rfl
theorem set_last {σ : H} {a b : AO} : (σ ++ [a]).set σ.length b = σ ++ [b] := by
  rw [List.set_append_right _ _ (Nat.le_refl _), Nat.sub_self]; rfl
theorem listAt_last {σ : H} {xs : List AV} : listAt (σ ++ [.list xs]) σ.length = some xs := by
  unfold listAt
  rw [List.getElem?_append_right (Nat.le_refl _), Nat.sub_self]; rfl
end

/-! _law_within -/
noncomputable def wBo : List Stmt := fnBo 16
noncomputable def wS0 : Stmt := nthS wBo 0
noncomputable def wS1 : Stmt := nthS wBo 1
noncomputable def wLC : Expr := nthE (eAs (eR (sX wS0))) 0
noncomputable def wG : Comprehension := nthG (eGs wLC) 0
noncomputable def fW (row number first last left : Option AV) : AF := ⟨fnNm 16, [row, number, first, last, left, none]⟩
noncomputable def cW (first last : Option AV) : AF := ⟨(eSc wLC).names, [none, first, last]⟩
noncomputable abbrev iA (i : Int) : AV := .int i .any
noncomputable def wid (l : List (Int × Int)) : List Int := l.map fun p => p.2 - p.1 + 1
noncomputable def widA (l : List (Int × Int)) : List AV := l.map fun p => iA (p.2 - p.1 + 1)
theorem drop_cons_get {α : Type} {l : List α} {i : Nat} {a : α} (h : l[i]? = some a) : l.drop i = a :: l.drop (i + 1) := by
  obtain ⟨hl, e⟩ := List.getElem?_eq_some_iff.mp h
  rw [List.drop_eq_getElem_cons hl, e]

section
variable {ns : List Int} {orc : Orc} {σ : H}
theorem wid_co {l : List (Int × Int)} {r : Nat} (hl : l.length ≤ 900) (hr : RowIs σ r l) : ∀ (m i : Nat) (ws : List AV) (a b : Option AV), i + m = l.length → ws.length ≤ i →
    ∃ a' b', ev ns orc (m + 30) (.co (cW a b) (eL wLC) [wG] (.lst r) i σ.length) (σ ++ [.list ws]) = some (.f (cW a' b'), σ ++ [.list (ws ++ widA (l.drop i))])
  | 0, i, ws, a, b, hm, hw => by
    refine ⟨a, b, ?_⟩
    rw [co_end (k := 29) (by kernel_rfl) (row_end (hr.app _) (by omega)), List.drop_eq_nil_of_le (by omega)]
    show _ = some (Res.f (cW a b), σ ++ [AO.list (ws ++ [])])
    rw [List.append_nil]
  | m + 1, i, ws, a, b, hm, hw => by
    obtain ⟨⟨x, y⟩, hi⟩ : ∃ p, l[i]? = some p := ⟨l[i]'(by omega), List.getElem?_eq_getElem (by omega)⟩
    have h1 : foAs (ev ns orc (m + 30)) (cW a b) wG.target (.lst r) i (σ ++ [.list ws]) = some (.f (cW (some (iA x)) (some (iA y))), σ ++ [.list ws]) :=
      row_turn (k := m + 29) (hr.app _) hi (es := eAs wG.target) (kk := eK wG.target) (p := tP wG.target) (by kernel_rfl) (by kernel_rfl) (by kernel_rfl)
    have h2 : ev ns orc (m + 30) (.ifs (cW (some (iA x)) (some (iA y))) wG.ifs) (σ ++ [.list ws]) = some (.b true, σ ++ [.list ws]) := by kernel_rfl
    have h3 : ev ns orc (m + 30) (.e (cW (some (iA x)) (some (iA y))) (eL wLC)) (σ ++ [.list ws]) = some (.v (iA (y - x + 1)), σ ++ [.list ws]) := by kernel_rfl
    have e := co_yes (k := m + 30) (by kernel_rfl) h1 h2 rfl h3 (append_ok listAt_last (by omega))
    obtain ⟨a', b', ih⟩ := wid_co hl hr m (i + 1) (ws ++ [iA (y - x + 1)]) (some (iA x)) (some (iA y)) (by omega) (by rw [List.length_append]; simp; omega)
    refine ⟨a', b', ?_⟩
    rw [show m + 1 + 30 = m + 30 + 1 by omega, e, set_last, ih, drop_cons_get hi]
    rw [List.append_assoc]; rfl

/-- the walk over a row -/
noncomputable def walk : List (Int × Int) → Int → Int
  | [], _ => 0
  | (a, b) :: r, x => match decide (x ≤ b - a) with
    | true => a + x
    | false => walk r (x - (b - a + 1))
/-- is there an end to the walk -/
noncomputable def walks : List (Int × Int) → Int → Bool
  | [], _ => false
  | (a, b) :: r, x => match decide (x ≤ b - a) with
    | true => true
    | false => walks r (x - (b - a + 1))
theorem walk_fo {l : List (Int × Int)} {r : Nat} (hr : RowIs σ r l) {row number : Option AV} : ∀ (m i : Nat) (a b : Option AV) (x : Int) (kn : Kn), (kn = .any ∨ ∃ s, kn = .lt s) → i + m = l.length → walks (l.drop i) x = true →
    ∃ f', ev ns orc (m + 33) (.fo (fW row number a b (some (.int x kn))) (sT wS1) (.lst r) i (sB wS1)) σ = some (.fl f' (.ret (iA (walk (l.drop i) x))), σ)
  | 0, i, a, b, x, kn, hk, hm, hw => by
    rw [List.drop_eq_nil_of_le (by omega)] at hw; cases hw
  | m + 1, i, a, b, x, kn, hk, hm, hw => by
    obtain ⟨⟨c, d⟩, hi⟩ : ∃ p, l[i]? = some p := ⟨l[i]'(by omega), List.getElem?_eq_getElem (by omega)⟩
    rw [drop_cons_get hi] at hw ⊢
    have h1 : foAs (ev ns orc (m + 33)) (fW row number a b (some (.int x kn))) (sT wS1) (.lst r) i σ = some (.f (fW row number (some (iA c)) (some (iA d)) (some (.int x kn))), σ) :=
      row_turn (k := m + 32) hr hi (es := eAs (sT wS1)) (kk := eK (sT wS1)) (p := tP (sT wS1)) (by kernel_rfl) (by kernel_rfl) (by kernel_rfl)
    have ht : ev ns orc (m + 31) (.t (fW row number (some (iA c)) (some (iA d)) (some (.int x kn))) (sT (nthS (sB wS1) 0))) σ = some (.b (decide (x ≤ d - c)), σ) := by
      rcases hk with rfl | ⟨s, rfl⟩ <;> kernel_rfl
    have hb : sB wS1 = [.If (sT (nthS (sB wS1) 0)) (sB (nthS (sB wS1) 0)) (sO (nthS (sB wS1) 0)) (sP (nthS (sB wS1) 0)), nthS (sB wS1) 1] := by kernel_rfl
    have hwu : walks ((c, d) :: l.drop (i + 1)) x = (match decide (x ≤ d - c) with
      | true => true
      | false => walks (l.drop (i + 1)) (x - (d - c + 1))) := rfl
    have hku : walk ((c, d) :: l.drop (i + 1)) x = (match decide (x ≤ d - c) with
      | true => c + x
      | false => walk (l.drop (i + 1)) (x - (d - c + 1))) := rfl
    rw [hwu] at hw
    rw [hku]
    cases hd : decide (x ≤ d - c) with
    | true =>
      have h2 : ev ns orc (m + 33) (.ss (fW row number (some (iA c)) (some (iA d)) (some (.int x kn))) (sB wS1)) σ = some (.fl (fW row number (some (iA c)) (some (iA d)) (some (.int x kn))) (.ret (iA (c + x))), σ) := by
        rw [hb]
        refine ss_ret ?_
        rw [s_if_t ht hd]
        rcases hk with rfl | ⟨s, rfl⟩ <;> kernel_rfl
      exact ⟨_, fo_ret (k := m + 33) h1 h2⟩
    | false =>
      rw [hd] at hw
      have h2 : ev ns orc (m + 33) (.ss (fW row number (some (iA c)) (some (iA d)) (some (.int x kn))) (sB wS1)) σ = some (.fl (fW row number (some (iA c)) (some (iA d)) (some (iA (x - (d - c + 1))))) .next, σ) := by
        rw [hb]
        rw [ss_cons (f1 := fW row number (some (iA c)) (some (iA d)) (some (.int x kn))) (σ1 := σ) (by rw [s_if_f ht hd]; kernel_rfl)]
        rcases hk with rfl | ⟨s, rfl⟩ <;> kernel_rfl
      obtain ⟨f', ih⟩ := walk_fo hr m (i + 1) (some (iA c)) (some (iA d)) (x - (d - c + 1)) .any (.inl rfl) (by omega) hw
      refine ⟨f', ?_⟩
      rw [show m + 1 + 33 = m + 33 + 1 by omega, fo_turn h1 h2]
      exact ih
theorem wid_ivals : ∀ l : List (Int × Int), ivals (widA l) = some (wid l)
  | [] => rfl
  | p :: l => by
    show (match ivals (widA l) with
      | some r => some ((p.2 - p.1 + 1) :: r)
      | none => none) = _
    rw [wid_ivals l]; rfl
noncomputable def withinF (j : Nat) (x : Int) : Int := walk (rowL j) (Int.fmod x (sumFrom 0 (wid (rowL j))))
theorem within_ev {j r : Nat} {x : Int} (hj : j < 7) (hr : RowIs σ r (rowL j)) (hw : walks (rowL j) (Int.fmod x (sumFrom 0 (wid (rowL j)))) = true) :
    ∃ t, ev ns noOrc ((rowL j).length + 37) (.ca 16 [.obj r, iA x]) σ = some (.v (iA (withinF j x)), σ ++ t) := by
  have hlen : (rowL j).length ≤ 900 := by
    rcases j with _ | _ | _ | _ | _ | _ | _ | j <;> first | decide | omega
  obtain ⟨xs, hx, hxl⟩ := hr
  have hr : RowIs σ r (rowL j) := ⟨xs, hx, hxl⟩
  generalize hm : (rowL j).length = m
  obtain ⟨a', b', hco⟩ := wid_co (ns := ns) (orc := noOrc) hlen hr m 0 [] none none (by omega) (Nat.le_refl _)
  rw [List.nil_append, List.drop_zero] at hco
  let f0 := fW (some (.obj r)) (some (iA x)) none none none
  have hlc : ev ns noOrc (m + 31) (.e f0 wLC) σ = some (.v (.obj σ.length), σ ++ [.list (widA (rowL j))]) := by
    rw [show wLC = .ListComp (eL wLC) [wG] (eSc wLC) (eP wLC) by kernel_rfl]
    refine e_lc (k := m + 30) (comp_e (by kernel_rfl) (by kernel_rfl) (by kernel_rfl) (it_list (k := m + 29) (by kernel_rfl) (by kernel_rfl) (by kernel_rfl) hx) (f' := cW a' b') ?_)
    rw [show compFrame (eSc wLC).names f0 = cW none none by kernel_rfl]
    exact hco
  have hsum : applyV noOrc (ev ns noOrc (m + 32)) (.bi 1) [.obj σ.length] (σ ++ [.list (widA (rowL j))]) = some (.v (iA (sumFrom 0 (wid (rowL j)))), σ ++ [.list (widA (rowL j))]) := by
    show giveV (match (σ ++ [AO.list (widA (rowL j))])[σ.length]? with
        | some (.list xs) => match ivals xs with
          | some l => some (AV.int (sumFrom 0 l) .any, σ ++ [AO.list (widA (rowL j))])
          | none => none
        | some (.ints l) => some (AV.int (sumFrom 0 l) .any, σ ++ [AO.list (widA (rowL j))])
        | _ => none) = _
    rw [List.getElem?_append_right (Nat.le_refl _), Nat.sub_self]
    show giveV (match ivals (widA (rowL j)) with
          | some l => some (AV.int (sumFrom 0 l) .any, σ ++ [AO.list (widA (rowL j))])
          | none => none) = _
    rw [wid_ivals]; rfl
  have hcall : ev ns noOrc (m + 33) (.e f0 (eR (sX wS0))) σ = some (.v (iA (sumFrom 0 (wid (rowL j)))), σ ++ [.list (widA (rowL j))]) := by
    rw [show eR (sX wS0) = .Call (.Name (nmI (eL (eR (sX wS0)))) (tP (eL (eR (sX wS0))))) [wLC] [] (eP (eR (sX wS0))) by kernel_rfl]
    exact e_call (k := m + 32) (a := .bi 1) (σ1 := σ) (by kernel_rfl) (es_one (k := m + 30) (by kernel_rfl) hlc) hsum
  have hmod : ∃ kn, (kn = .any ∨ ∃ s, kn = .lt s) ∧ binV .Mod (isOne (eL (sX wS0))) (iA x) (.int (sumFrom 0 (wid (rowL j))) .any) (σ ++ [.list (widA (rowL j))]) = some (.int (Int.fmod x (sumFrom 0 (wid (rowL j)))) kn, σ ++ [.list (widA (rowL j))]) := by
    refine ⟨.lt (sumFrom 0 (wid (rowL j))).toNat, .inr ⟨_, rfl⟩, ?_⟩
    rcases j with _ | _ | _ | _ | _ | _ | _ | j
    all_goals first | (exfalso; omega) | kernel_rfl
  obtain ⟨kn, hkn, hmod⟩ := hmod
  let σ1 := σ ++ [AO.list (widA (rowL j))]
  let f1 := fW (some (.obj r)) (some (iA x)) none none (some (.int (Int.fmod x (sumFrom 0 (wid (rowL j)))) kn))
  have h0 : ev ns noOrc (m + 35) (.s f0 wS0) σ = some (.fl f1 .next, σ1) := by
    rw [show wS0 = .Assign [sT wS0] (.BinOp (eL (sX wS0)) .Mod (eR (sX wS0)) (eP (sX wS0))) (sP wS0) by kernel_rfl]
    exact s_asg (k := m + 34) (by kernel_rfl) (by kernel_rfl) (e_bin (k := m + 33) (σ1 := σ) (a := iA x) (by kernel_rfl) hcall hmod) (by kernel_rfl)
  obtain ⟨f', hfo⟩ := walk_fo (ns := ns) (orc := noOrc) (σ := σ1) (hr.app _) (row := some (.obj r)) (number := some (iA x)) m 0 none none _ kn hkn (by omega) hw
  have h1 : ev ns noOrc (m + 34) (.s f1 wS1) σ1 = some (.fl f' (.ret (iA (withinF j x))), σ1) := by
    rw [show wS1 = .For (sT wS1) (sX wS1) (sB wS1) [] (sP wS1) by kernel_rfl]
    rw [s_for (k := m + 33) (s := .lst r) (it_list (k := m + 32) (by kernel_rfl) (by kernel_rfl) (by kernel_rfl) (listAt_app hx))]
    exact hfo
  have hbo : ev ns noOrc (m + 36) (.ss f0 [wS0, wS1]) σ = some (.fl f' (.ret (iA (withinF j x))), σ1) := by
    rw [ss_cons (k := m + 35) h0]
    exact ss_ret (k := m + 34) h1
  rw [show [wS0, wS1] = (fnD 16).body by kernel_rfl] at hbo
  exact ⟨_, ca_ret (k := m + 36) (f := f0) (fn := fnD 16) (by kernel_rfl) (by kernel_rfl) (by kernel_rfl) (by kernel_rfl) hbo⟩
end
end Mine
set_option maxRecDepth 100000
open PySem PySem.W PyProof.Rows
namespace Mine
theorem anyEq_iff {c : Int} : ∀ {l : List Int}, anyEq c l = true ↔ c ∈ l
  | [] => ⟨fun h => (nomatch h), fun h => (nomatch h)⟩
  | a :: l => by
    show ((a == c) || anyEq c l) = true ↔ _
    rw [Bool.or_eq_true, anyEq_iff, List.mem_cons, beq_iff_eq]
    exact ⟨fun h => h.imp Eq.symm id, fun h => h.imp Eq.symm id⟩
noncomputable def inRow (l : List (Int × Int)) (c : Int) : Prop := ∃ p ∈ l, p.1 ≤ c ∧ c ≤ p.2
theorem inRow_nil {c : Int} : inRow [] c ↔ False := ⟨fun ⟨_, h, _⟩ => (nomatch h), False.elim⟩
theorem inRow_cons {a b c : Int} {l : List (Int × Int)} : inRow ((a, b) :: l) c ↔ (a ≤ c ∧ c ≤ b) ∨ inRow l c := by
  unfold inRow
  constructor
  · rintro ⟨p, hp, h⟩
    rcases List.mem_cons.mp hp with rfl | hp
    · exact .inl h
    · exact .inr ⟨p, hp, h⟩
  · rintro (h | ⟨p, hp, h⟩)
    · exact ⟨(a, b), List.mem_cons_self .., h⟩
    · exact ⟨p, List.mem_cons_of_mem _ hp, h⟩
theorem band16 {c : Int} (h : 0 ≤ c) : Builtin.bitAnd c 65535 = c % 65536 := by
  obtain ⟨n, rfl⟩ := Int.eq_ofNat_of_zero_le h
  unfold Builtin.bitAnd
  have h1 : decide (0 ≤ (n : Int)) = true := by simp
  have h2 : decide (0 ≤ (65535 : Int)) = true := by decide
  rw [h1, h2]
  simp only
  show ((n &&& 65535 : Nat) : Int) = _
  rw [show (65535 : Nat) = 2 ^ 16 - 1 by decide, Nat.and_two_pow_sub_one_eq_mod]
  omega
noncomputable def expand (l : List (Int × Int)) : List Int := l.flatMap fun p => (List.range (p.2 - p.1 + 1).toNat).map fun (i : Nat) => p.1 + (i : Int)
theorem mem_expand {l : List (Int × Int)} {c : Int} : c ∈ expand l ↔ inRow l c := by
  unfold expand inRow
  rw [List.mem_flatMap]
  constructor
  · rintro ⟨p, hp, h⟩
    obtain ⟨i, hi, e⟩ := List.mem_map.mp h
    rw [List.mem_range] at hi
    exact ⟨p, hp, by omega, by omega⟩
  · rintro ⟨p, hp, h1, h2⟩
    exact ⟨p, hp, List.mem_map.mpr ⟨(c - p.1).toNat, List.mem_range.mpr (by omega), by omega⟩⟩
noncomputable def subB (A B : List Int) : Bool := A.all fun a => anyEq a B
theorem subB_spec {A B : List Int} (h : subB A B = true) {c : Int} (hc : c ∈ A) : c ∈ B := anyEq_iff.mp (List.all_eq_true.mp h c hc)
theorem same_row {A : List Int} {l : List (Int × Int)} (h1 : subB A (expand l) = true) (h2 : subB (expand l) A = true) {c : Int} : anyEq c A = true ↔ inRow l c := by
  rw [anyEq_iff, ← mem_expand]
  exact ⟨subB_spec h1, subB_spec h2⟩
noncomputable def c4up : Bool := (List.range 17).all fun (q : Nat) => anyEq (65536 * (q : Int) + 65534) (expand (rowL 2)) && anyEq (65536 * (q : Int) + 65535) (expand (rowL 2))
noncomputable def c4dn : Bool := (expand (rowL 2)).all fun a => decide (64976 ≤ a) && (decide (a < 65008) || decide (65534 ≤ a % 65536))
theorem c4_iff {c : Int} (h0 : 0 ≤ c) (h1 : c < 1114112) : c4B c = true ↔ inRow (rowL 2) c := by
  have hdn : ∀ a, inRow (rowL 2) a → 64976 ≤ a ∧ (a < 65008 ∨ 65534 ≤ a % 65536) := by
    intro a ha
    have := List.all_eq_true.mp (show c4dn = true by kernel_rfl) a (mem_expand.mpr ha)
    simpa using this
  unfold c4B
  cases e1 : decide (c < 64976) with
  | true =>
    have := of_decide_eq_true e1
    constructor
    · intro h; cases h
    · intro h
      have := (hdn c h).1
      omega
  | false =>
    have := of_decide_eq_false e1
    simp only
    cases e2 : decide (c < 65008) with
    | true =>
      have := of_decide_eq_true e2
      constructor
      · intro _; exact inRow_cons.mpr (.inl ⟨by omega, by omega⟩)
      · intro _; rfl
    | false =>
      have := of_decide_eq_false e2
      simp only
      rw [band16 h0, anyEq_iff]
      constructor
      · intro h
        have hq := List.all_eq_true.mp (show c4up = true by kernel_rfl) (c / 65536).toNat (List.mem_range.mpr (by omega))
        rw [Bool.and_eq_true, anyEq_iff, anyEq_iff] at hq
        rcases List.mem_cons.mp h with h | h
        · rw [← mem_expand]
          have e : c = 65536 * ((c / 65536).toNat : Int) + 65534 := by omega
          rw [e]; exact hq.1
        · rw [List.mem_singleton] at h
          rw [← mem_expand]
          have e : c = 65536 * ((c / 65536).toNat : Int) + 65535 := by omega
          rw [e]; exact hq.2
      · intro h
        rcases (hdn c h).2 with q | q
        · omega
        · rw [List.mem_cons, List.mem_singleton]
          omega
theorem tab_iff {j : Nat} {c : Int} (hj : j < 7) (h0 : 0 ≤ c) (h1 : c < 1114112) : tabB j c = true ↔ inRow (rowL j) c := by
  rcases j with _ | _ | _ | _ | _ | _ | _ | j
  · exact same_row (A := setElems 0) (by kernel_rfl) (by kernel_rfl)
  · show (c == 32) = true ↔ _
    rw [← same_row (A := [32]) (l := rowL 1) (by kernel_rfl) (by kernel_rfl), anyEq_iff, List.mem_singleton, beq_iff_eq]
  · exact c4_iff h0 h1
  · exact same_row (A := setElems 1) (by kernel_rfl) (by kernel_rfl)
  · exact same_row (A := setElems 2) (by kernel_rfl) (by kernel_rfl)
  · exact same_row (A := setElems 3) (by kernel_rfl) (by kernel_rfl)
  · exact same_row (A := setElems 4) (by kernel_rfl) (by kernel_rfl)
  · exact absurd hj (by omega)
/-- the bounds of all rows -/
noncomputable def boundB (j : Nat) : Bool := (expand (rowL j)).all fun a => decide (0 ≤ a) && decide (a < 1114112)
theorem row_bound {j : Nat} (hj : j < 7) {c : Int} (h : inRow (rowL j) c) : 0 ≤ c ∧ c < 1114112 := by
  have hb : boundB j = true := by
    rcases j with _ | _ | _ | _ | _ | _ | _ | j
    all_goals first | (exfalso; omega; done) | kernel_rfl
  have := List.all_eq_true.mp hb c (mem_expand.mpr h)
  simpa using this
noncomputable def good : List (Int × Int) → Bool
  | [] => true
  | (a, b) :: l => decide (a ≤ b) && good l
theorem sumFrom_add : ∀ (l : List Int) (a b : Int), sumFrom (a + b) l = a + sumFrom b l
  | [], a, b => rfl
  | c :: l, a, b => by
    show sumFrom (a + b + c) l = a + sumFrom (b + c) l
    rw [Int.add_assoc, sumFrom_add l a (b + c)]
theorem walk_in : ∀ {l : List (Int × Int)} {x : Int}, good l = true → 0 ≤ x → x < sumFrom 0 (wid l) → walks l x = true ∧ inRow l (walk l x)
  | [], x, _, h0, h1 => by have : sumFrom 0 (wid []) = 0 := rfl; omega
  | (a, b) :: l, x, hg, h0, h1 => by
    unfold good at hg
    rw [Bool.and_eq_true] at hg
    have hab := of_decide_eq_true hg.1
    have hs : sumFrom 0 (wid ((a, b) :: l)) = (b - a + 1) + sumFrom 0 (wid l) := by
      show sumFrom (0 + (b - a + 1)) (wid l) = _
      rw [Int.zero_add, ← Int.add_zero (b - a + 1), sumFrom_add, Int.add_zero]
    rw [hs] at h1
    have e1 : walks ((a, b) :: l) x = (match decide (x ≤ b - a) with
      | true => true
      | false => walks l (x - (b - a + 1))) := rfl
    have e2 : walk ((a, b) :: l) x = (match decide (x ≤ b - a) with
      | true => a + x
      | false => walk l (x - (b - a + 1))) := rfl
    rw [e1, e2, inRow_cons]
    cases hd : decide (x ≤ b - a) with
    | true =>
      have := of_decide_eq_true hd
      exact ⟨rfl, .inl ⟨by show a ≤ a + x; omega, by show a + x ≤ b; omega⟩⟩
    | false =>
      have := of_decide_eq_false hd
      have ih := walk_in (l := l) (x := x - (b - a + 1)) hg.2 (by omega) (by omega)
      exact ⟨ih.1, .inr ih.2⟩
theorem within_ok {j : Nat} (hj : j < 7) (x : Int) : walks (rowL j) (Int.fmod x (sumFrom 0 (wid (rowL j)))) = true ∧ inRow (rowL j) (withinF j x) := by
  have hp : 0 < sumFrom 0 (wid (rowL j)) ∧ good (rowL j) = true := by
    rcases j with _ | _ | _ | _ | _ | _ | _ | j <;> first | (exfalso; omega; done) | exact ⟨by decide, by decide⟩
  refine walk_in hp.2 ?_ ?_
  · rw [Int.fmod_eq_emod_of_nonneg x (by omega)]; exact Int.emod_nonneg x (by omega)
  · exact Int.fmod_lt_of_pos x hp.1
theorem within_tab {j : Nat} (hj : j < 7) (x : Int) : knOk (withinF j x) (.tab j true) := by
  have h := (within_ok hj x).2
  obtain ⟨a, b⟩ := row_bound hj h
  exact ⟨a, b, (tab_iff hj a b).mpr h⟩
section
variable {C : Cx}
theorem noOrc_ok {N : Nat} : OSnd C noOrc N := fun _ _ _ _ _ _ e => by cases e
theorem within_mean (S : SF C) {n k j : Nat} {x : Int} {σ : H} (h : tabAt σ k = some j) (hn : 100 ≤ n) : Mean C n (.ca 16 [.obj k, iA x]) σ (.v (.int (withinF j x) (.tab j true))) σ := by
  obtain ⟨hr, hj⟩ := tabAt_row h
  obtain ⟨t, e⟩ := within_ev (ns := C.ns) (x := x) hj hr (within_ok hj x).1
  have m := snd_ev S (Nat.le_refl 40) noOrc_ok _ _ _ _ _ e
  have hl : (rowL j).length ≤ 18 := by
    rcases j with _ | _ | _ | _ | _ | _ | _ | j <;> first | (exfalso; omega; done) | decide
  exact (M_forget (v := iA (withinF j x)) (v' := .int (withinF j x) (.tab j true)) t (fun ρ u us _ q ρ' => ⟨q.1, within_tab hj x⟩) m).lessN (by omega)
end
end Mine
set_option maxRecDepth 100000
open PySem PySem.W PyProof.Rows
namespace Mine
section
variable {ns : List Int} {orc : Orc} {k : Nat} {f f' f1 f2 : AF} {σ σ' σ1 σ2 σ3 σ4 : H}
theorem t_boolop {op : BoolOp} {vs : List Expr} {p : Pos} : ev ns orc (k + 1) (.t f (.BoolOp op vs p)) σ = ev ns orc k (.ts f op vs) σ := rfl
theorem ts_or_nil : ev ns orc (k + 1) (.ts f .Or []) σ = some (.b false, σ) := rfl
theorem ts_and_nil : ev ns orc (k + 1) (.ts f .And []) σ = some (.b true, σ) := rfl
theorem t_cmp2 {l x y : Expr} {op1 op2 : CmpOp} {p : Pos} {a b c : AV} {B1 B2 : Bool} (hm1 : behindInMarks op1 x = false) (hm2 : behindInMarks op2 y = false) (h1 : ev ns orc (k + 2) (.e f l) σ = some (.v a, σ)) (h2 : ev ns orc (k + 1) (.e f x) σ = some (.v b, σ)) (h3 : cmpV op1 a b σ = some B1)
    (h4 : ev ns orc k (.e f y) σ = some (.v c, σ)) (h5 : cmpV op2 b c σ = some B2) :
    ev ns orc (k + 3) (.t f (.Compare l [op1, op2] [x, y] p)) σ = some (.b (B1 && B2), σ) := by
  show toE (ev ns orc (k + 2) (.e f l) σ) (fun a σ => ev ns orc (k + 2) (.tch f a [op1, op2] [x, y]) σ) = _
  rw [h1]
  show (match behindInMarks op1 x with
    | true => none
    | false => toE (ev ns orc (k + 1) (.e f x) σ) _) = _
  rw [hm1]
  show toE (ev ns orc (k + 1) (.e f x) σ) _ = _
  rw [h2]
  show (match cmpV op1 a b σ with
    | none => none
    | some b' => match b' with
      | true => ev ns orc (k + 1) (.tch f b [op2] [y]) σ
      | false => some (Res.b false, σ)) = _
  rw [h3]
  cases B1 with
  | false => rfl
  | true =>
    show (match behindInMarks op2 y with
      | true => none
      | false => toE (ev ns orc k (.e f y) σ) _) = _
    rw [hm2]
    show toE (ev ns orc k (.e f y) σ) _ = _
    rw [h4]
    show (match cmpV op2 b c σ with
      | none => none
      | some b => some (Res.b b, σ)) = _
    rw [h5]
    cases B2 <;> rfl
theorem as_pair {tgt : Expr} {es : List Expr} {kk t : Nat} {p : Pos} {a b : AV} (ht : tgt = .Tuple es kk p) (hes : es.length = 2) (e2 : σ[t]? = some (.tup [a, b]))
    (h : ev ns orc k (.asn f es [a, b]) σ = some (.f f1, σ1)) : ev ns orc (k + 1) (.as f tgt (.obj t)) σ = some (.f f1, σ1) := by
  subst ht
  show (match σ[t]? with
      | some (.tup xs) => match Nat.beq xs.length es.length with
        | true => ev ns orc k (.asn f es xs) σ
        | false => none
      | _ => none) = _
  rw [e2]; simp only
  rw [hes]
  exact h
theorem itemV_ok {j : Nat} {b : AV} {I : Int} {xs : List AV} {v : AV} (hb : ival b = some I) (hx : listAt σ j = some xs) (hl : xs.length ≤ 1000) (h0 : 0 ≤ I) (h1 : I < xs.length) (hv : xs[I.toNat]? = some v) : itemV (.obj j) b σ = some v := by
  have hi : itemsAt σ j = some xs := by
    unfold listAt at hx
    unfold itemsAt
    split at hx
    · rename_i ys e; rw [e]; exact hx
    · cases hx
  unfold itemV
  simp only
  rw [hb]; simp only
  rw [hi]; simp only
  have : idxOf I xs.length = some I.toNat := by
    obtain ⟨n, rfl⟩ := Int.eq_ofNat_of_zero_le h0
    unfold idxOf
    rw [Nat.ble_eq_true_of_le hl]; simp only
    show (match Nat.blt n xs.length with
      | true => some n
      | false => none) = _
    rw [Nat.blt_eq.mpr (by omega : n < xs.length)]; rfl
  rw [this]; exact hv
theorem len_ok {j : Nat} {xs : List AV} {ih : EvT} (hx : listAt σ j = some xs) (hl : xs.length ≤ 1000) : applyV orc ih (.bi 0) [.obj j] σ = some (.v (iA (Int.ofNat xs.length)), σ) := by
  show giveV (match listAt σ j with
        | some xs => match Nat.ble xs.length 1000 with
          | true => some (AV.int (Int.ofNat xs.length) .any, σ)
          | false => none
        | none => none) = _
  rw [hx]; simp only
  rw [Nat.ble_eq_true_of_le hl]; rfl
end

noncomputable def bBo : List Stmt := fnBo 17
noncomputable def bS (j : Nat) : Stmt := nthS bBo j
noncomputable def bLC : Expr := eL (nthE (eAs (sT (bS 3))) 1)
noncomputable def bG : Comprehension := nthG (eGs bLC) 0
noncomputable def fB (row number code first last : Option AV) : AF := ⟨fnNm 17, [row, number, code, first, last, none]⟩
noncomputable def cB (low high code : Option AV) : AF := ⟨(eSc bLC).names, [none, low, high, code]⟩
noncomputable def fil (l : List (Int × Int)) (c : Int) : List (Int × Int) := l.filter fun p => decide (p.1 ≤ c) && decide (c ≤ p.2)
noncomputable def filA (l : List (Int × Int)) (c : Int) : List AV := (fil l c).map fun p => iA p.1
theorem filA_cons {a b c : Int} {l : List (Int × Int)} : filA ((a, b) :: l) c = (match decide (a ≤ c) && decide (c ≤ b) with
    | true => iA a :: filA l c
    | false => filA l c) := by
  unfold filA fil
  rw [List.filter_cons]
  cases h : (decide (a ≤ c) && decide (c ≤ b)) with
  | true => rw [if_pos rfl]; rfl
  | false => rw [if_neg (by decide)]
section
variable {ns : List Int} {orc : Orc} {σ : H}
theorem fil_co {l : List (Int × Int)} {r : Nat} {c : Int} {kn : Kn} (hk : kn = .any ∨ ∃ s, kn = .lt s) (hl : l.length ≤ 900) (hr : RowIs σ r l) : ∀ (m i : Nat) (ws : List AV) (a b : Option AV), i + m = l.length → ws.length ≤ i →
    ∃ a' b', ev ns orc (m + 49) (.co (cB a b (some (.int c kn))) (eL bLC) [bG] (.lst r) i σ.length) (σ ++ [.list ws]) = some (.f (cB a' b' (some (.int c kn))), σ ++ [.list (ws ++ filA (l.drop i) c)])
  | 0, i, ws, a, b, hm, hw => by
    refine ⟨a, b, ?_⟩
    rw [co_end (k := 48) (by kernel_rfl) (row_end (hr.app _) (by omega)), List.drop_eq_nil_of_le (by omega)]
    show _ = some (Res.f (cB a b _), σ ++ [AO.list (ws ++ [])])
    rw [List.append_nil]
  | m + 1, i, ws, a, b, hm, hw => by
    obtain ⟨⟨x, y⟩, hi⟩ : ∃ p, l[i]? = some p := ⟨l[i]'(by omega), List.getElem?_eq_getElem (by omega)⟩
    have h1 : foAs (ev ns orc (m + 49)) (cB a b (some (.int c kn))) bG.target (.lst r) i (σ ++ [.list ws]) = some (.f (cB (some (iA x)) (some (iA y)) (some (.int c kn))), σ ++ [.list ws]) :=
      row_turn (k := m + 48) (hr.app _) hi (es := eAs bG.target) (kk := eK bG.target) (p := tP bG.target) (by kernel_rfl) (by kernel_rfl) (by kernel_rfl)
    let T := nthE bG.ifs 0
    have hT : T = .Compare (eL T) [.LtE, .LtE] [nthE (eAs T) 0, nthE (eAs T) 1] (eP T) := by kernel_rfl
    have hT2 : bG.ifs = [T] := by kernel_rfl
    have h2 : ev ns orc (m + 49) (.ifs (cB (some (iA x)) (some (iA y)) (some (.int c kn))) bG.ifs) (σ ++ [.list ws]) = some (.b (decide (x ≤ c) && decide (c ≤ y)), σ ++ [.list ws]) := by
      rw [hT2]
      refine ifs_one (k := m + 47) ?_
      rw [hT]
      refine t_cmp2 (k := m + 45) (a := iA x) (b := .int c kn) (c := iA y) (by kernel_rfl) (by kernel_rfl) (by kernel_rfl) (by kernel_rfl) ?_ (by kernel_rfl) ?_
      · rcases hk with rfl | ⟨s, rfl⟩ <;> rfl
      · rcases hk with rfl | ⟨s, rfl⟩ <;> rfl
    rw [show m + 1 + 49 = m + 49 + 1 by omega, drop_cons_get hi, filA_cons]
    cases hB : (decide (x ≤ c) && decide (c ≤ y)) with
    | true =>
      have h3 : ev ns orc (m + 49) (.e (cB (some (iA x)) (some (iA y)) (some (.int c kn))) (eL bLC)) (σ ++ [.list ws]) = some (.v (iA x), σ ++ [.list ws]) := by kernel_rfl
      have e := co_yes (k := m + 49) (by kernel_rfl) h1 h2 hB h3 (append_ok listAt_last (by omega))
      obtain ⟨a', b', ih⟩ := fil_co hk hl hr m (i + 1) (ws ++ [iA x]) (some (iA x)) (some (iA y)) (by omega) (by rw [List.length_append]; simp; omega)
      refine ⟨a', b', ?_⟩
      rw [e, set_last, ih, List.append_assoc]; rfl
    | false =>
      obtain ⟨a', b', ih⟩ := fil_co hk hl hr m (i + 1) ws (some (iA x)) (some (iA y)) (by omega) (by omega)
      refine ⟨a', b', ?_⟩
      rw [co_no (k := m + 49) (by kernel_rfl) h1 h2 hB]
      exact ih
theorem fil_ivals : ∀ (l : List (Int × Int)), ivals (l.map fun p => iA p.1) = some (l.map fun p => p.1)
  | [] => rfl
  | p :: l => by
    show (match ivals (l.map fun p => iA p.1) with
      | some r => some (p.1 :: r)
      | none => none) = _
    rw [fil_ivals l]; rfl
/-- the code before it is looked at -/
noncomputable def code1 (x : Int) : Int × Kn := match decide (Int.fmod (Int.fdiv x 2) 1112064 ≤ 55295) with
  | true => (Int.fmod (Int.fdiv x 2) 1112064, .lt 1112064)
  | false => (Int.fmod (Int.fdiv x 2) 1112064 + 2048, .lt 1114112)
noncomputable def idxB (j : Nat) (c : Int) : Int := match Nat.beq (rowL j).length 2 with
  | true => bI (Int.fmod c 2 == 1)
  | false => Int.fmod c (Int.ofNat (rowL j).length)
noncomputable def pairB (j : Nat) (c : Int) : Int × Int := match (rowL j)[(idxB j c).toNat]? with
  | some p => p
  | none => (1, 0)
noncomputable def code2 (j : Nat) (x : Int) : Int × Kn := match Int.fmod x 2 == 1 with
  | false => code1 x
  | true => match Int.fmod x 4 == 1 with
    | true => ((pairB j (code1 x).1).1 - 1, .any)
    | false => ((pairB j (code1 x).1).2 + 1, .any)
noncomputable def beyondF (j : Nat) (x : Int) : Int := match !(decide ((code2 j x).1 ≤ 1114111)) with
  | true => 97
  | false => match !(eqInts ((fil (rowL j) (code2 j x).1).map fun p => p.1) []) with
    | true => 97
    | false => (code2 j x).1
theorem code1_kn (x : Int) : ∃ s, (code1 x).2 = .lt s := by
  unfold code1
  split <;> exact ⟨_, rfl⟩
theorem code2_kn (j : Nat) (x : Int) : (code2 j x).2 = .any ∨ ∃ s, (code2 j x).2 = .lt s := by
  unfold code2
  split
  · exact .inr (code1_kn x)
  · split <;> exact .inl rfl
theorem idxB_ok {j : Nat} (hj : j < 7) (c : Int) : 0 ≤ idxB j c ∧ idxB j c < (rowL j).length := by
  have hb : ∀ b, 0 ≤ bI b ∧ bI b < 2 := by intro b; cases b <;> decide
  have hm : ∀ n : Int, 0 < n → 0 ≤ Int.fmod c n ∧ Int.fmod c n < n := fun n hn => ⟨by rw [Int.fmod_eq_emod_of_nonneg c (by omega)]; exact Int.emod_nonneg c (by omega), Int.fmod_lt_of_pos c hn⟩
  rcases j with _ | _ | _ | _ | _ | _ | _ | j
  · exact hm 8 (by decide)
  · exact hm 1 (by decide)
  · exact hm 18 (by decide)
  · exact hm 1 (by decide)
  · exact hm 1 (by decide)
  · exact hm 4 (by decide)
  · exact hb _
  · omega
theorem idxB_val {j : Nat} (hj : j < 7) (c : Int) (s : Nat) (l1 : Bool) : ∃ bv, binV .Mod l1 (.int c (.lt s)) (iA (Int.ofNat (rowL j).length)) σ = some (bv, σ) ∧ ival bv = some (idxB j c) := by
  rcases j with _ | _ | _ | _ | _ | _ | _ | j <;> first | (exfalso; omega; done) | exact ⟨_, rfl, rfl⟩
theorem beyond_ev {j r : Nat} {x : Int} (hj : j < 7) (hr : RowIs σ r (rowL j)) : ∃ kn t, ev ns noOrc ((rowL j).length + 60) (.ca 17 [.obj r, iA x]) σ = some (.v (.int (beyondF j x) kn), σ ++ t) := by
  have hlen : (rowL j).length ≤ 18 := by
    rcases j with _ | _ | _ | _ | _ | _ | _ | j <;> first | (exfalso; omega; done) | decide
  obtain ⟨xs, hx, hxl⟩ := hr
  have hr : RowIs σ r (rowL j) := ⟨xs, hx, hxl⟩
  have hxn := rowAt_len hxl
  generalize hm : (rowL j).length = m at hlen hxn
  let f0 := fB (some (.obj r)) (some (iA x)) none none none
  let c0 := Int.fmod (Int.fdiv x 2) 1112064
  have h0 : ev ns noOrc (m + 58) (.s f0 (bS 0)) σ = some (.fl (fB (some (.obj r)) (some (iA x)) (some (.int c0 (.lt 1112064))) none none) .next, σ) := by kernel_rfl
  have h1 : ev ns noOrc (m + 57) (.s (fB (some (.obj r)) (some (iA x)) (some (.int c0 (.lt 1112064))) none none) (bS 1)) σ = some (.fl (fB (some (.obj r)) (some (iA x)) (some (.int (code1 x).1 (code1 x).2)) none none) .next, σ) := by
    have ht : ev ns noOrc (m + 56) (.t (fB (some (.obj r)) (some (iA x)) (some (.int c0 (.lt 1112064))) none none) (sT (bS 1))) σ = some (.b (!(decide (c0 ≤ 55295))), σ) := by kernel_rfl
    rw [show bS 1 = .If (sT (bS 1)) (sB (bS 1)) (sO (bS 1)) (sP (bS 1)) by kernel_rfl]
    have hc : code1 x = (match decide (c0 ≤ 55295) with
      | true => (c0, .lt 1112064)
      | false => (c0 + 2048, .lt 1114112)) := rfl
    rw [hc]
    cases hd : decide (c0 ≤ 55295) with
    | true =>
      rw [s_if_f (k := m + 56) ht (by rw [hd]; rfl)]
      kernel_rfl
    | false =>
      rw [s_if_t (k := m + 56) ht (by rw [hd]; rfl)]
      kernel_rfl
  obtain ⟨s1, hs1⟩ := code1_kn x
  obtain ⟨fi, la, h2⟩ : ∃ fi la, ev ns noOrc (m + 56) (.s (fB (some (.obj r)) (some (iA x)) (some (.int (code1 x).1 (code1 x).2)) none none) (bS 2)) σ = some (.fl (fB (some (.obj r)) (some (iA x)) (some (.int (code2 j x).1 (code2 j x).2)) fi la) .next, σ) := by
    have ht : ev ns noOrc (m + 55) (.t (fB (some (.obj r)) (some (iA x)) (some (.int (code1 x).1 (code1 x).2)) none none) (sT (bS 2))) σ = some (.b (Int.fmod x 2 == 1), σ) := by kernel_rfl
    rw [show bS 2 = .If (sT (bS 2)) (sB (bS 2)) (sO (bS 2)) (sP (bS 2)) by kernel_rfl]
    have hc : code2 j x = (match Int.fmod x 2 == 1 with
      | false => code1 x
      | true => match Int.fmod x 4 == 1 with
        | true => ((pairB j (code1 x).1).1 - 1, .any)
        | false => ((pairB j (code1 x).1).2 + 1, .any)) := rfl
    rw [hc]
    cases hd : (Int.fmod x 2 == 1) with
    | false =>
      refine ⟨none, none, ?_⟩
      rw [s_if_f (k := m + 55) ht hd]
      kernel_rfl
    | true =>
      rw [hs1]
      rw [hs1] at ht
      generalize (code1 x).1 = c1 at ht
      let fc := fB (some (.obj r)) (some (iA x)) (some (.int c1 (.lt s1))) none none
      obtain ⟨bv, hbv, hiv⟩ := idxB_val (σ := σ) hj c1 s1 (isOne (eL (eR (sX (nthS (sB (bS 2)) 0)))))
      obtain ⟨i0, i1⟩ := idxB_ok hj c1
      have hp : (rowL j)[(idxB j c1).toNat]? = some (pairB j c1) := by
        unfold pairB
        rw [List.getElem?_eq_getElem (by omega)]
      have := rowAt_get hxl (idxB j c1).toNat
      rw [hp] at this
      obtain ⟨t, e1, e2⟩ := this
      have hlenE : ev ns noOrc (m + 51) (.e fc (eR (eR (sX (nthS (sB (bS 2)) 0))))) σ = some (.v (iA (Int.ofNat (rowL j).length)), σ) := by
        rw [show eR (eR (sX (nthS (sB (bS 2)) 0))) = .Call (.Name (nmI (eL (eR (eR (sX (nthS (sB (bS 2)) 0)))))) (tP (eL (eR (eR (sX (nthS (sB (bS 2)) 0))))))) (eAs (eR (eR (sX (nthS (sB (bS 2)) 0))))) [] (eP (eR (eR (sX (nthS (sB (bS 2)) 0))))) by kernel_rfl]
        refine e_call (k := m + 50) (a := .bi 0) (vs := [.obj r]) (σ1 := σ) (σ2 := σ) (by kernel_rfl) (by kernel_rfl) ?_
        rw [len_ok hx (by omega), hxn, hm]
      have hsub : ev ns noOrc (m + 53) (.e fc (sX (nthS (sB (bS 2)) 0))) σ = some (.v (.obj t), σ) := by
        rw [show sX (nthS (sB (bS 2)) 0) = .Subscript (eL (sX (nthS (sB (bS 2)) 0))) (.BinOp (eL (eR (sX (nthS (sB (bS 2)) 0)))) .Mod (eR (eR (sX (nthS (sB (bS 2)) 0)))) (eP (eR (sX (nthS (sB (bS 2)) 0))))) (eP (sX (nthS (sB (bS 2)) 0))) by kernel_rfl]
        exact e_item (k := m + 52) (by rfl) (a := .obj r) (σ1 := σ) (by kernel_rfl) (e_bin (k := m + 51) (a := .int c1 (.lt s1)) (σ1 := σ) (by kernel_rfl) hlenE hbv) (itemV_ok hiv hx (by omega) i0 (by omega) e1)
      let fd := fB (some (.obj r)) (some (iA x)) (some (.int c1 (.lt s1))) (some (iA (pairB j c1).1)) (some (iA (pairB j c1).2))
      have ha : ev ns noOrc (m + 54) (.s fc (nthS (sB (bS 2)) 0)) σ = some (.fl fd .next, σ) := by
        rw [show nthS (sB (bS 2)) 0 = .Assign [sT (nthS (sB (bS 2)) 0)] (sX (nthS (sB (bS 2)) 0)) (sP (nthS (sB (bS 2)) 0)) by kernel_rfl]
        exact s_asg (k := m + 53) (by kernel_rfl) (by kernel_rfl) hsub (as_pair (k := m + 52) (es := eAs (sT (nthS (sB (bS 2)) 0))) (kk := eK (sT (nthS (sB (bS 2)) 0))) (p := tP (sT (nthS (sB (bS 2)) 0))) (by kernel_rfl) (by kernel_rfl) e2 (by kernel_rfl))
      have hb : sB (bS 2) = [nthS (sB (bS 2)) 0, .Assign [sT (nthS (sB (bS 2)) 1)] (.IfExp (eL (sX (nthS (sB (bS 2)) 1))) (eR (sX (nthS (sB (bS 2)) 1))) (eO (sX (nthS (sB (bS 2)) 1))) (eP (sX (nthS (sB (bS 2)) 1)))) (sP (nthS (sB (bS 2)) 1))] := by kernel_rfl
      have ht4 : ev ns noOrc (m + 51) (.t fd (eL (sX (nthS (sB (bS 2)) 1)))) σ = some (.b (Int.fmod x 4 == 1), σ) := by kernel_rfl
      rw [s_if_t (k := m + 55) ht hd, hb]
      simp only
      cases hd4 : (Int.fmod x 4 == 1) with
      | true =>
        refine ⟨some (iA (pairB j c1).1), some (iA (pairB j c1).2), ?_⟩
        rw [ss_cons (k := m + 54) ha]
        refine ss_one (k := m + 52) (s_asg (k := m + 52) (v := iA ((pairB j c1).1 - 1)) (σ1 := σ) (by rfl) (by kernel_rfl) ?_ (by kernel_rfl))
        rw [e_ifexp_t (k := m + 51) ht4 hd4]
        kernel_rfl
      | false =>
        refine ⟨some (iA (pairB j c1).1), some (iA (pairB j c1).2), ?_⟩
        rw [ss_cons (k := m + 54) ha]
        refine ss_one (k := m + 52) (s_asg (k := m + 52) (v := iA ((pairB j c1).2 + 1)) (σ1 := σ) (by rfl) (by kernel_rfl) ?_ (by kernel_rfl))
        rw [e_ifexp_f (k := m + 51) ht4 hd4]
        kernel_rfl
  have hk := code2_kn j x
  generalize hc2 : (code2 j x).1 = c at h2
  generalize hn2 : (code2 j x).2 = kn at h2 hk
  let f2 := fB (some (.obj r)) (some (iA x)) (some (.int c kn)) fi la
  have ht0 : ev ns noOrc (m + 52) (.t f2 (nthE (eAs (sT (bS 3))) 0)) σ = some (.b (!(decide (c ≤ 1114111))), σ) := by
    rcases hk with rfl | ⟨s, rfl⟩ <;> kernel_rfl
  obtain ⟨a', b', hco⟩ := fil_co (ns := ns) (orc := noOrc) (c := c) hk (by omega) hr m 0 [] none none (by omega) (Nat.le_refl _)
  rw [List.nil_append, List.drop_zero] at hco
  have hlc : ev ns noOrc (m + 50) (.e f2 bLC) σ = some (.v (.obj σ.length), σ ++ [.list (filA (rowL j) c)]) := by
    rw [show bLC = .ListComp (eL bLC) [bG] (eSc bLC) (eP bLC) by kernel_rfl]
    refine e_lc (k := m + 49) (comp_e (by kernel_rfl) (by kernel_rfl) (by kernel_rfl) (it_list (k := m + 48) (by kernel_rfl) (by kernel_rfl) (by kernel_rfl) hx) (f' := cB a' b' (some (.int c kn))) ?_)
    rw [show compFrame (eSc bLC).names f2 = cB none none (some (.int c kn)) by kernel_rfl]
    exact hco
  let σ1 := σ ++ [AO.list (filA (rowL j) c)]
  have hcmp : cmpV .NotEq (.obj σ.length) (.obj σ1.length) (σ1 ++ [.list []]) = some (!(eqInts ((fil (rowL j) c).map fun p => p.1) [])) := by
    show (match (match listAt (σ1 ++ [AO.list []]) σ.length with
      | some xs => match listAt (σ1 ++ [AO.list []]) σ1.length with
        | some ys => match ivals xs with
          | some l => match ivals ys with
            | some l' => some (eqInts l l')
            | none => none
          | none => none
        | none => none
      | none => none) with
      | some c => some (!c)
      | none => none) = _
    rw [listAt_app (listAt_last (σ := σ) (xs := filA (rowL j) c)), listAt_last]
    show (match (match ivals (filA (rowL j) c) with
          | some l => some (eqInts l [])
          | none => none) with
      | some c => some (!c)
      | none => none) = _
    rw [show filA (rowL j) c = (fil (rowL j) c).map (fun p => iA p.1) from rfl, fil_ivals]
  have ht1 : ev ns noOrc (m + 51) (.t f2 (nthE (eAs (sT (bS 3))) 1)) σ = some (.b (!(eqInts ((fil (rowL j) c).map fun p => p.1) [])), σ1 ++ [.list []]) := by
    rw [show nthE (eAs (sT (bS 3))) 1 = .Compare bLC [.NotEq] [eR (nthE (eAs (sT (bS 3))) 1)] (eP (nthE (eAs (sT (bS 3))) 1)) by kernel_rfl]
    exact t_cmp (k := m + 49) (σ1 := σ1) (b := .obj σ1.length) (by kernel_rfl) hlc (by kernel_rfl) hcmp
  have hT : sT (bS 3) = .BoolOp .Or [nthE (eAs (sT (bS 3))) 0, nthE (eAs (sT (bS 3))) 1] (eP (sT (bS 3))) := by kernel_rfl
  have hbu : beyondF j x = (match !(decide (c ≤ 1114111)) with
    | true => 97
    | false => match !(eqInts ((fil (rowL j) c).map fun p => p.1) []) with
      | true => 97
      | false => c) := by rw [← hc2]; rfl
  have hbody : bBo = [bS 0, bS 1, bS 2, .If (sT (bS 3)) (sB (bS 3)) (sO (bS 3)) (sP (bS 3)), bS 4] := by kernel_rfl
  have hend : ∃ kn' t f', ev ns noOrc (m + 59) (.ss f0 bBo) σ = some (.fl f' (.ret (.int (beyondF j x) kn')), σ ++ t) := by
    rw [hbody, ss_cons (k := m + 58) h0, ss_cons (k := m + 57) h1, ss_cons (k := m + 56) h2, hbu]
    cases h4 : (!(decide (c ≤ 1114111))) with
    | true =>
      refine ⟨.any, [], f2, ?_⟩
      have ht : ev ns noOrc (m + 54) (.t f2 (sT (bS 3))) σ = some (.b true, σ) := by
        rw [hT, t_boolop (k := m + 53)]
        exact ts_or_t (k := m + 52) ht0 h4
      rw [List.append_nil]
      refine ss_ret (k := m + 55) ?_
      rw [s_if_t (k := m + 54) ht rfl]
      kernel_rfl
    | false =>
      have ht : ev ns noOrc (m + 54) (.t f2 (sT (bS 3))) σ = some (.b (!(eqInts ((fil (rowL j) c).map fun p => p.1) [])), σ1 ++ [.list []]) := by
        rw [hT, t_boolop (k := m + 53), ts_or_f (k := m + 52) ht0 h4]
        cases h5 : (!(eqInts ((fil (rowL j) c).map fun p => p.1) [])) with
        | true => exact ts_or_t (k := m + 51) ht1 h5
        | false => rw [ts_or_f (k := m + 51) ht1 h5, ts_or_nil (k := m + 50)]
      simp only
      cases h5 : (!(eqInts ((fil (rowL j) c).map fun p => p.1) [])) with
      | true =>
        refine ⟨.any, [AO.list (filA (rowL j) c)] ++ [.list []], f2, ?_⟩
        rw [← List.append_assoc]
        refine ss_ret (k := m + 55) ?_
        rw [s_if_t (k := m + 54) ht h5]
        kernel_rfl
      | false =>
        refine ⟨kn, [AO.list (filA (rowL j) c)] ++ [.list []], f2, ?_⟩
        rw [← List.append_assoc]
        rw [ss_cons (k := m + 55) (f1 := f2) (σ1 := σ1 ++ [.list []]) (by rw [s_if_f (k := m + 54) ht h5]; kernel_rfl)]
        kernel_rfl
  obtain ⟨kn', t, f', hend⟩ := hend
  rw [show bBo = (fnD 17).body by kernel_rfl] at hend
  exact ⟨kn', t, ca_ret (k := m + 59) (f := f0) (fn := fnD 17) (by kernel_rfl) (by kernel_rfl) (by kernel_rfl) (by kernel_rfl) hend⟩
theorem fil_nil {l : List (Int × Int)} {c : Int} (h : eqInts ((fil l c).map fun p => p.1) [] = true) : ¬ inRow l c := by
  rintro ⟨p, hp, h1, h2⟩
  have : p ∈ fil l c := List.mem_filter.mpr ⟨hp, by simp [h1, h2]⟩
  cases hf : fil l c with
  | nil => rw [hf] at this; cases this
  | cons q r => rw [hf] at h; cases h
theorem row_low {j : Nat} (hj : j < 7) : (∀ p ∈ rowL j, 1 ≤ p.1 ∧ 0 ≤ p.2) ∧ ¬ inRow (rowL j) 97 := by
  rcases j with _ | _ | _ | _ | _ | _ | _ | j
  all_goals first | (exfalso; omega; done) | skip
  all_goals refine ⟨by decide, ?_⟩
  all_goals simp only [rowL, inRow_cons, inRow_nil, or_false]
  all_goals omega
theorem beyond_tab {j : Nat} (hj : j < 7) (x : Int) : knOk (beyondF j x) (.tab j false) := by
  have no : ∀ c : Int, 0 ≤ c → c < 1114112 → ¬ inRow (rowL j) c → knOk c (.tab j false) := by
    intro c h0 h1 h
    refine ⟨h0, h1, ?_⟩
    cases ht : tabB j c with
    | false => rfl
    | true => exact absurd ((tab_iff hj h0 h1).mp ht) h
  have h97 : knOk 97 (.tab j false) := no 97 (by decide) (by decide) (row_low hj).2
  unfold beyondF
  split
  · exact h97
  · rename_i h4
    split
    · exact h97
    · rename_i h5
      have h4' : (code2 j x).1 ≤ 1114111 := by simpa using h4
      refine no _ ?_ (by omega) (fil_nil (by simpa using h5))
      have hc1 : 0 ≤ (code1 x).1 := by
        have hm : 0 ≤ Int.fmod (Int.fdiv x 2) 1112064 := by rw [Int.fmod_eq_emod_of_nonneg _ (by decide)]; exact Int.emod_nonneg _ (by decide)
        unfold code1
        split
        · exact hm
        · show (0 : Int) ≤ Int.fmod (Int.fdiv x 2) 1112064 + 2048; omega
      have hp : 1 ≤ (pairB j (code1 x).1).1 ∧ 0 ≤ (pairB j (code1 x).1).2 := by
        unfold pairB
        split
        · rename_i p hp; exact (row_low hj).1 p (List.mem_of_getElem? hp)
        · exact ⟨by decide, by decide⟩
      unfold code2
      split
      · exact hc1
      · split
        · show (0 : Int) ≤ (pairB j (code1 x).1).1 - 1; omega
        · show (0 : Int) ≤ (pairB j (code1 x).1).2 + 1; omega
end
section
variable {C : Cx}
theorem beyond_mean (S : SF C) {n k j : Nat} {x : Int} {σ : H} (h : tabAt σ k = some j) (hn : 120 ≤ n) : Mean C n (.ca 17 [.obj k, iA x]) σ (.v (.int (beyondF j x) (.tab j false))) σ := by
  obtain ⟨hr, hj⟩ := tabAt_row h
  obtain ⟨kn, t, e⟩ := beyond_ev (ns := C.ns) (x := x) hj hr
  have m := snd_ev S (Nat.le_refl 40) noOrc_ok _ _ _ _ _ e
  have hl : (rowL j).length ≤ 18 := by
    rcases j with _ | _ | _ | _ | _ | _ | _ | j <;> first | (exfalso; omega; done) | decide
  exact (M_forget (v := .int (beyondF j x) kn) (v' := .int (beyondF j x) (.tab j false)) t (fun ρ u us _ q ρ' => ⟨q.1, beyond_tab hj x⟩) m).lessN (by omega)
end
end Mine
set_option maxRecDepth 100000
open PySem PySem.W PyProof.Rows
namespace Mine

/-! Int2AP -/
noncomputable def apL : List UInt8 := [65, 66, 67, 68, 69, 70, 71, 72, 73, 74, 75, 76, 77, 78, 79, 80]
noncomputable def sl1 (m : Int) : List UInt8 := (apL.take (m + 1).toNat).drop m.toNat
noncomputable def ltrs : Nat → Int → List UInt8 → List UInt8
  | 0, _, v => v
  | d + 1, x, v => match x != 0 with
    | false => v
    | true => ltrs d (Int.fdiv x 16) (sl1 (Int.fmod x 16) ++ v)
noncomputable def iS (j : Nat) : Stmt := nthS (fnBo 7) j
noncomputable def fI (num val AP mod : Option AV) : AF := ⟨fnNm 7, [num, val, AP, mod, none, none, none]⟩
theorem get_last {σ : H} {a : AO} : (σ ++ [a])[σ.length]? = some a := by
  rw [List.getElem?_append_right (Nat.le_refl _), Nat.sub_self]; rfl
section
variable {ns : List Int} {orc : Orc} {σ : H}
theorem add_bytes {x y : List UInt8} {n m : Nat} {l1 : Bool} (h : n + m ≤ 1000) : binV .Add l1 (.bytes x n) (.bytes y m) σ = some (.bytes (x ++ y) (n + m), σ) := by
  show (match Nat.ble (n + m) 1000 with
      | true => some (AV.bytes (x ++ y) (n + m), σ)
      | false => none) = _
  rw [Nat.ble_eq_true_of_le h]
theorem int_wh : ∀ (d n : Nat) (x : Int) (v : List UInt8) (mod : Option AV) (σ : H), 0 ≤ x → x < 16 ^ d → n + 16 * d ≤ 1000 →
    ∃ nu mo n' t, ev ns noOrc (d + 33) (.wh (fI (some (iA x)) (some (.bytes v n)) (some (.bytes apL 16)) mod) (sT (iS 3)) (sB (iS 3))) σ = some (.fl (fI nu (some (.bytes (ltrs d x v) n')) (some (.bytes apL 16)) mo) .next, σ ++ t)
  | 0, n, x, v, mod, σ, h0, h1, hn => by
    have : x = 0 := by have : (16 : Int) ^ 0 = 1 := rfl; omega
    subst this
    refine ⟨some (iA 0), mod, n, [], ?_⟩
    rw [List.append_nil]
    exact wh_end (k := 32) (B := false) (by kernel_rfl) rfl
  | d + 1, n, x, v, mod, σ, h0, h1, hn => by
    let f0 := fI (some (iA x)) (some (.bytes v n)) (some (.bytes apL 16)) mod
    have ht : ev ns noOrc (d + 33) (.t f0 (sT (iS 3))) σ = some (.b (x != 0), σ) := by kernel_rfl
    have hu : ltrs (d + 1) x v = (match x != 0 with
      | false => v
      | true => ltrs d (Int.fdiv x 16) (sl1 (Int.fmod x 16) ++ v)) := rfl
    rw [hu, show d + 1 + 33 = d + 33 + 1 by omega]
    cases hx : (x != 0) with
    | false =>
      refine ⟨some (iA x), mod, n, [], ?_⟩
      rw [List.append_nil]
      exact wh_end (k := d + 33) ht hx
    | true =>
      let tu : AO := .tup [iA (Int.fdiv x 16), .int (Int.fmod x 16) (.lt 16)]
      let f1 := fI (some (iA (Int.fdiv x 16))) (some (.bytes v n)) (some (.bytes apL 16)) (some (.int (Int.fmod x 16) (.lt 16)))
      have ha : ev ns noOrc (d + 32) (.s f0 (nthS (sB (iS 3)) 0)) σ = some (.fl f1 .next, σ ++ [tu]) := by
        rw [show nthS (sB (iS 3)) 0 = .Assign [sT (nthS (sB (iS 3)) 0)] (sX (nthS (sB (iS 3)) 0)) (sP (nthS (sB (iS 3)) 0)) by kernel_rfl]
        exact s_asg (k := d + 31) (v := .obj σ.length) (σ1 := σ ++ [tu]) (by kernel_rfl) (by kernel_rfl) (by kernel_rfl) (as_pair (k := d + 30) (es := eAs (sT (nthS (sB (iS 3)) 0))) (kk := eK (sT (nthS (sB (iS 3)) 0))) (p := tP (sT (nthS (sB (iS 3)) 0))) (by kernel_rfl) (by kernel_rfl) get_last (by kernel_rfl))
      let f2 := fI (some (iA (Int.fdiv x 16))) (some (.bytes (sl1 (Int.fmod x 16) ++ v) (16 + n))) (some (.bytes apL 16)) (some (.int (Int.fmod x 16) (.lt 16)))
      have hb : ev ns noOrc (d + 31) (.s f1 (nthS (sB (iS 3)) 1)) (σ ++ [tu]) = some (.fl f2 .next, σ ++ [tu]) := by
        rw [show nthS (sB (iS 3)) 1 = .Assign [sT (nthS (sB (iS 3)) 1)] (.BinOp (eL (sX (nthS (sB (iS 3)) 1))) .Add (eR (sX (nthS (sB (iS 3)) 1))) (eP (sX (nthS (sB (iS 3)) 1)))) (sP (nthS (sB (iS 3)) 1)) by kernel_rfl]
        exact s_asg (k := d + 30) (by kernel_rfl) (by kernel_rfl) (e_bin (k := d + 29) (a := .bytes (sl1 (Int.fmod x 16)) 16) (b := .bytes v n) (σ1 := σ ++ [tu]) (σ2 := σ ++ [tu]) (by kernel_rfl) (by kernel_rfl) (add_bytes (by omega))) (by kernel_rfl)
      have h2 : ev ns noOrc (d + 33) (.ss f0 (sB (iS 3))) σ = some (.fl f2 .next, σ ++ [tu]) := by
        rw [show sB (iS 3) = [nthS (sB (iS 3)) 0, nthS (sB (iS 3)) 1] by kernel_rfl, ss_cons (k := d + 32) ha, ss_cons (k := d + 31) hb]
        rfl
      obtain ⟨nu, mo, n', t, ih⟩ := int_wh d (16 + n) (Int.fdiv x 16) (sl1 (Int.fmod x 16) ++ v) (some (.int (Int.fmod x 16) (.lt 16))) (σ ++ [tu]) (by rw [Int.fdiv_eq_ediv_of_nonneg x (by decide)]; omega)
        (by rw [Int.fdiv_eq_ediv_of_nonneg x (by decide)]; rw [Int.pow_succ] at h1; omega) (by omega)
      refine ⟨nu, mo, n', [tu] ++ t, ?_⟩
      rw [wh_go (k := d + 33) ht hx h2, ih, List.append_assoc]
noncomputable def lettersOf (x : Int) : List UInt8 := ltrs 31 (Int.ofNat x.natAbs) []
theorem int_ev {x : Int} (hx : x.natAbs < 16 ^ 31) : ∃ n' t, ev ns noOrc 70 (.ca 7 [iA x]) σ = some (.v (.bytes (lettersOf x) n'), σ ++ t) := by
  have hx' : Int.ofNat x.natAbs < 16 ^ 31 := by
    have : ((16 ^ 31 : Nat) : Int) = 16 ^ 31 := by decide
    have h2 : Int.ofNat x.natAbs = (x.natAbs : Int) := rfl
    omega
  obtain ⟨nu, mo, n', t, h⟩ := int_wh (ns := ns) 31 0 (Int.ofNat x.natAbs) [] none σ (Int.natCast_nonneg _) hx' (by decide)
  refine ⟨n', t, ?_⟩
  let f0 := fI (some (iA x)) none none none
  let f3 := fI (some (iA (Int.ofNat x.natAbs))) (some (.bytes [] 0)) (some (.bytes apL 16)) none
  let f4 := fI nu (some (.bytes (lettersOf x) n')) (some (.bytes apL 16)) mo
  have h4 : ev ns noOrc 65 (.s f3 (iS 3)) σ = some (.fl f4 .next, σ ++ t) := by
    rw [show iS 3 = .While (sT (iS 3)) (sB (iS 3)) [] (sP (iS 3)) by kernel_rfl, s_while (k := 64)]
    exact h
  have e0 : ev ns noOrc 68 (.s f0 (iS 0)) σ = some (.fl (fI (some (iA x)) (some (.bytes [] 0)) none none) .next, σ) := by kernel_rfl
  have e1 : ev ns noOrc 67 (.s (fI (some (iA x)) (some (.bytes [] 0)) none none) (iS 1)) σ = some (.fl (fI (some (iA x)) (some (.bytes [] 0)) (some (.bytes apL 16)) none) .next, σ) := by kernel_rfl
  have e2 : ev ns noOrc 66 (.s (fI (some (iA x)) (some (.bytes [] 0)) (some (.bytes apL 16)) none) (iS 2)) σ = some (.fl f3 .next, σ) := by kernel_rfl
  have e5 : ev ns noOrc 64 (.s f4 (iS 4)) (σ ++ t) = some (.fl f4 (.ret (.bytes (lettersOf x) n')), σ ++ t) := by kernel_rfl
  have hend : ev ns noOrc 69 (.ss f0 [iS 0, iS 1, iS 2, iS 3, iS 4]) σ = some (.fl f4 (.ret (.bytes (lettersOf x) n')), σ ++ t) := by
    rw [ss_cons (k := 68) e0, ss_cons (k := 67) e1, ss_cons (k := 66) e2, ss_cons (k := 65) h4]
    exact ss_ret (k := 64) e5
  rw [show [iS 0, iS 1, iS 2, iS 3, iS 4] = (fnD 7).body by kernel_rfl] at hend
  exact ca_ret (k := 69) (f := f0) (fn := fnD 7) (by kernel_rfl) (by kernel_rfl) (by kernel_rfl) (by kernel_rfl) hend
theorem sl1_len (m : Int) : (sl1 m).length ≤ 1 ∨ m < 0 := by
  by_cases h : m < 0
  · exact .inr h
  · left
    unfold sl1
    rw [List.length_drop, List.length_take]
    omega
theorem ltrs_len : ∀ (d : Nat) (x : Int) (v : List UInt8), 0 ≤ x → (ltrs d x v).length ≤ d + v.length
  | 0, x, v, _ => by show v.length ≤ 0 + v.length; omega
  | d + 1, x, v, h0 => by
    have hu : ltrs (d + 1) x v = (match x != 0 with
      | false => v
      | true => ltrs d (Int.fdiv x 16) (sl1 (Int.fmod x 16) ++ v)) := rfl
    rw [hu]
    split
    · omega
    · have := ltrs_len d (Int.fdiv x 16) (sl1 (Int.fmod x 16) ++ v) (by rw [Int.fdiv_eq_ediv_of_nonneg x (by decide)]; omega)
      rw [List.length_append] at this
      rcases sl1_len (Int.fmod x 16) with h | h
      · omega
      · rw [Int.fmod_eq_emod_of_nonneg x (by decide)] at h; omega
end
section
variable {C : Cx}
theorem int_mean (S : SF C) {n : Nat} {x l h : Int} {σ : H} (hl : l.natAbs < 16 ^ 31) (hh : h.natAbs < 16 ^ 31) (hn : 110 ≤ n) : Mean C n (.ca 7 [.int x (.itv l h)]) σ (.v (.bytes (lettersOf x) 31)) σ := by
  intro A ρ hp tk Q us hA R a hQ
  obtain ⟨u, us', e, q, e'⟩ := a
  obtain ⟨h1, h2⟩ : l ≤ x ∧ x ≤ h := q.2
  obtain ⟨n', t, ee⟩ := int_ev (ns := C.ns) (σ := σ) (x := x) (by omega)
  have m := snd_ev S (Nat.le_refl 40) noOrc_ok _ _ _ _ _ ee
  have hlen : (lettersOf x).length ≤ 31 := ltrs_len 31 _ [] (Int.natCast_nonneg _)
  exact (M_forget (v := .bytes (lettersOf x) n') (v' := .bytes (lettersOf x) 31) t (fun ρ u us _ q ρ' => ⟨q.1, hlen⟩) m).lessN (by omega) A ρ hp tk Q us hA R ⟨u, us', e, ⟨q.1, trivial⟩, e'⟩ hQ
end
/-! the tables -/
noncomputable def tabFn (j : Nat) : Nat := 8 + j
section
variable {ns : List Int} {orc : Orc} {σ : H}
theorem tab_ev {j : Nat} (hj : j < 7) {c : Int} {b : Bool} : ∃ t, ev ns noOrc 60 (.ca (8 + j) [.chr c (.tab j b)]) σ = some (.v (.bool (tabB j c)), σ ++ t) := by
  rcases j with _ | _ | _ | _ | _ | _ | _ | j
  · exact ⟨[], by rw [List.append_nil]; kernel_rfl⟩
  · exact ⟨[], by rw [List.append_nil]; kernel_rfl⟩
  · let fc : Option AV → Option AV → AF := fun a b => ⟨fnNm 10, [a, b, none]⟩
    let f0 := fc (some (.chr c (.tab 2 b))) none
    let f1 := fc (some (.chr c (.tab 2 b))) (some (.int c (.lt 1114112)))
    let tS (j : Nat) : Stmt := nthS (fnBo 10) j
    have e0 : ev ns noOrc 58 (.s f0 (tS 0)) σ = some (.fl f1 .next, σ) := by kernel_rfl
    have t1 : ev ns noOrc 56 (.t f1 (sT (tS 1))) σ = some (.b (!(decide (64976 ≤ c))), σ) := by kernel_rfl
    have t2 : ev ns noOrc 55 (.t f1 (sT (tS 2))) σ = some (.b (!(decide (65008 ≤ c))), σ) := by kernel_rfl
    have hin : cmpV .In (iA (Builtin.bitAnd c 65535)) (.obj σ.length) (σ ++ [.tup [iA 65534, iA 65535]]) = some (anyEq (Builtin.bitAnd c 65535) [65534, 65535]) := by
      have hi : itemsAt (σ ++ [.tup [iA 65534, iA 65535]]) σ.length = some [iA 65534, iA 65535] := by
        unfold itemsAt
        rw [get_last]
      show (match itemsAt (σ ++ [AO.tup [iA 65534, iA 65535]]) σ.length with
        | some xs => match ivals xs with
          | some l => some (anyEq (Builtin.bitAnd c 65535) l)
          | none => none
        | none => none) = _
      rw [hi]; rfl
    have e3 : ev ns noOrc 55 (.s f1 (tS 3)) σ = some (.fl f1 (.ret (.bool (anyEq (Builtin.bitAnd c 65535) [65534, 65535]))), σ ++ [.tup [iA 65534, iA 65535]]) := by
      rw [show tS 3 = .Return (some (.Compare (eL (sX (tS 3))) [.In] [eR (sX (tS 3))] (eP (sX (tS 3))))) (sP (tS 3)) by kernel_rfl]
      exact s_ret (k := 54) (e_cmp (k := 52) (σ1 := σ) (by kernel_rfl) (by kernel_rfl) (by kernel_rfl) hin)
    have hb : (fnD 10).body = [tS 0, .If (sT (tS 1)) (sB (tS 1)) (sO (tS 1)) (sP (tS 1)), .If (sT (tS 2)) (sB (tS 2)) (sO (tS 2)) (sP (tS 2)), tS 3] := by kernel_rfl
    have hend : ∃ t f', ev ns noOrc 59 (.ss f0 (fnD 10).body) σ = some (.fl f' (.ret (.bool (c4B c))), σ ++ t) := by
      rw [hb, ss_cons (k := 58) e0]
      unfold c4B
      cases h1 : decide (64976 ≤ c) with
      | false =>
        have := of_decide_eq_false h1
        rw [decide_eq_true (by omega : c < 64976)]
        refine ⟨[], f1, ?_⟩
        rw [List.append_nil]
        refine ss_ret (k := 57) ?_
        rw [s_if_t (k := 56) t1 (by rw [h1]; rfl)]
        kernel_rfl
      | true =>
        have := of_decide_eq_true h1
        rw [decide_eq_false (by omega : ¬ c < 64976)]
        rw [ss_cons (k := 57) (f1 := f1) (σ1 := σ) (by rw [s_if_f (k := 56) t1 (by rw [h1]; rfl)]; kernel_rfl)]
        cases h2 : decide (65008 ≤ c) with
        | false =>
          have := of_decide_eq_false h2
          rw [decide_eq_true (by omega : c < 65008)]
          refine ⟨[], f1, ?_⟩
          rw [List.append_nil]
          refine ss_ret (k := 56) ?_
          rw [s_if_t (k := 55) t2 (by rw [h2]; rfl)]
          kernel_rfl
        | true =>
          have := of_decide_eq_true h2
          rw [decide_eq_false (by omega : ¬ c < 65008)]
          refine ⟨[.tup [iA 65534, iA 65535]], f1, ?_⟩
          rw [ss_cons (k := 56) (f1 := f1) (σ1 := σ) (by rw [s_if_f (k := 55) t2 (by rw [h2]; rfl)]; kernel_rfl)]
          exact ss_ret (k := 55) e3
    obtain ⟨t, f', hend⟩ := hend
    exact ⟨t, ca_ret (k := 59) (f := f0) (fn := fnD 10) (by kernel_rfl) (by kernel_rfl) (by kernel_rfl) (by kernel_rfl) hend⟩
  · exact ⟨[], by rw [List.append_nil]; kernel_rfl⟩
  · exact ⟨[], by rw [List.append_nil]; kernel_rfl⟩
  · exact ⟨[], by rw [List.append_nil]; kernel_rfl⟩
  · exact ⟨[], by rw [List.append_nil]; kernel_rfl⟩
  · omega
end
section
variable {C : Cx}
theorem tab_mean (S : SF C) {n j : Nat} {c : Int} {b : Bool} {σ : H} (hj : j < 7) (hn : 100 ≤ n) : Mean C n (.ca (8 + j) [.chr c (.tab j b)]) σ (.v (.bool b)) σ := by
  obtain ⟨t, e⟩ := tab_ev (ns := C.ns) (σ := σ) (c := c) (b := b) hj
  have m := snd_ev S (Nat.le_refl 40) noOrc_ok _ _ _ _ _ e
  refine (M_forget (v := .bool (tabB j c)) (v' := .bool b) t (fun ρ u us a q ρ' => ?_) m).lessN (by omega)
  obtain ⟨u', us', e, q', _⟩ := a
  have : tabB j c = b := q'.2.2.2
  rw [this] at q; exact q
end

/-! THE ORACLE -/
noncomputable def orcW : List AV → H → Option (AV × H)
  | [.obj k, .int x .any], σ => match tabAt σ k with
    | some j => some (.int (withinF j x) (.tab j true), σ)
    | none => none
  | _, _ => none
noncomputable def orcB : List AV → H → Option (AV × H)
  | [.obj k, .int x .any], σ => match tabAt σ k with
    | some j => some (.int (beyondF j x) (.tab j false), σ)
    | none => none
  | _, _ => none
noncomputable def orcI : List AV → H → Option (AV × H)
  | [.int x (.itv l h)], σ => match Nat.blt l.natAbs (16 ^ 31) with
    | true => match Nat.blt h.natAbs (16 ^ 31) with
      | true => some (.bytes (lettersOf x) 31, σ)
      | false => none
    | false => none
  | _, _ => none
noncomputable def orcT (i : Nat) : List AV → H → Option (AV × H)
  | [.chr _ (.tab j b)], σ => match Nat.blt j 7 with
    | true => match Nat.beq i (8 + j) with
      | true => some (.bool b, σ)
      | false => none
    | false => none
  | _, _ => none
noncomputable def lawOrc : Orc := fun i args σ => match Nat.beq i 16 with
  | true => orcW args σ
  | false => match Nat.beq i 17 with
    | true => orcB args σ
    | false => match Nat.beq i 7 with
      | true => orcI args σ
      | false => orcT i args σ
theorem lawOrc_ok {C : Cx} (S : SF C) : OSnd C lawOrc 130 := by
  intro n i args σ v σ' e hn
  unfold lawOrc at e
  split at e
  · rename_i h
    obtain rfl := Nat.eq_of_beq_eq_true h
    unfold orcW at e
    split at e
    · split at e
      · rename_i j hj
        cases e
        exact within_mean S hj (by omega)
      · cases e
    · cases e
  · split at e
    · rename_i _ h
      obtain rfl := Nat.eq_of_beq_eq_true h
      unfold orcB at e
      split at e
      · split at e
        · rename_i j hj
          cases e
          exact beyond_mean S hj (by omega)
        · cases e
      · cases e
    · split at e
      · rename_i _ _ h
        obtain rfl := Nat.eq_of_beq_eq_true h
        unfold orcI at e
        split at e
        · split at e
          · split at e
            · rename_i h1 _ h2
              cases e
              exact int_mean S (Nat.blt_eq.mp h1) (Nat.blt_eq.mp h2) (by omega)
            · cases e
          · cases e
        · cases e
      · unfold orcT at e
        split at e
        · split at e
          · split at e
            · rename_i h1 _ h2
              obtain rfl := Nat.eq_of_beq_eq_true h2
              cases e
              exact tab_mean S (Nat.blt_eq.mp h1) (by omega)
            · cases e
          · cases e
        · cases e
end Mine
set_option maxRecDepth 100000
open PySem PySem.W PyProof.Rows
namespace Mine
noncomputable def lB : List Stmt := fnBo 22
noncomputable def lS (j : Nat) : Stmt := nthS lB j
/-- the law's names -/
structure LV where
  at_ : Option AV := none
  cells : Option AV := some (.obj 1)
  tables : Option AV := some (.obj 5)
  runs : Option AV := some (.obj 50)
  one : Option AV := none
  other : Option AV := none
  pairs : Option AV := some (.obj 51)
  seen : Option AV := some (.obj 62)
  alone : Option AV := some (.obj 78)
  ties : Option AV := none
  row : Option AV := none
  figure : Option AV := none
  due : Option AV := none
  code : Option AV := none
  answer : Option AV := none
  worth : Option AV := none
  rings : Option AV := none
  guest : Option AV := none
  total : Option AV := none
  ring : Option AV := none
  whole : Option AV := none
  lacks : Option AV := none
  word : Option AV := none
  letters : Option AV := none
  odd : Option AV := none
  plain : Option AV := none
noncomputable def fr (v : LV) : AF := ⟨fnNm 22, [some .scr, v.at_, v.cells, v.tables, v.runs, v.one, v.other, v.pairs, v.seen, v.alone, v.ties, v.row, v.figure, v.due, v.code, v.answer, v.worth, v.rings, v.guest, v.total, v.ring, v.whole, v.lacks, v.word, v.letters, v.odd, v.plain, none, none, none, none, none, none, none, none, none, none, none, none, none, none, none, none, none, none, none, none, none, none, none, none, none, none, none, none]⟩

noncomputable def hRuns : H := [.list [.fn 8, .fn 9, .fn 10, .fn 11, .fn 12, .fn 13, .fn 14], .tup [iA 173, iA 173], .tup [iA 847, iA 847], .tup [iA 6150, iA 6150], .tup [iA 6155, iA 6157], .tup [iA 8203, iA 8205], .tup [iA 8288, iA 8288], .tup [iA 65024, iA 65039], .tup [iA 65279, iA 65279], .list [.obj 6, .obj 7, .obj 8, .obj 9, .obj 10, .obj 11, .obj 12, .obj 13], .list [.obj 16, .obj 17, .obj 18, .obj 19, .obj 20, .obj 21, .obj 22, .obj 23, .obj 24, .obj 25, .obj 26, .obj 27, .obj 28, .obj 29, .obj 30, .obj 31, .obj 32], .tup [iA 65534, iA 65535], .tup [iA 131070, iA 131071], .tup [iA 196606, iA 196607], .tup [iA 262142, iA 262143], .tup [iA 327678, iA 327679], .tup [iA 393214, iA 393215], .tup [iA 458750, iA 458751], .tup [iA 524286, iA 524287], .tup [iA 589822, iA 589823], .tup [iA 655358, iA 655359], .tup [iA 720894, iA 720895], .tup [iA 786430, iA 786431], .tup [iA 851966, iA 851967], .tup [iA 917502, iA 917503], .tup [iA 983038, iA 983039], .tup [iA 1048574, iA 1048575], .tup [iA 1114110, iA 1114111], .tup [iA 832, iA 833], .tup [iA 8206, iA 8207], .tup [iA 8234, iA 8238], .tup [iA 8298, iA 8303], .list [.obj 33, .obj 34, .obj 35, .obj 36], .tup [iA 917505, iA 917505], .tup [iA 917536, iA 917631], .list [.obj 38, .obj 39], .tup [iA 32, iA 32], .list [.obj 41], .tup [iA 64976, iA 65007], .list [.obj 43], .list [.obj 43, .obj 16, .obj 17, .obj 18, .obj 19, .obj 20, .obj 21, .obj 22, .obj 23, .obj 24, .obj 25, .obj 26, .obj 27, .obj 28, .obj 29, .obj 30, .obj 31, .obj 32], .tup [iA 65529, iA 65533], .list [.obj 46], .tup [iA 12272, iA 12283], .list [.obj 48], .list [.obj 14, .obj 42, .obj 45, .obj 47, .obj 49, .obj 37, .obj 40]]

noncomputable def hPairs : H := [.list [.obj 52, .obj 53, .obj 54, .obj 55, .obj 56, .obj 57, .obj 58, .obj 59, .obj 60, .obj 61], .tup [iA 0, iA 1], .tup [iA 0, iA 2], .tup [iA 0, iA 3], .tup [iA 0, iA 4], .tup [iA 1, iA 2], .tup [iA 1, iA 3], .tup [iA 1, iA 4], .tup [iA 2, iA 3], .tup [iA 2, iA 4], .tup [iA 3, iA 4]]

noncomputable def hP (c0 c1 c2 : AV) (i0 i1 i2 : List Int) : H := .list [iA 252, iA 0, iA 0] :: .list [c0, c1, c2] :: .ints i0 :: .ints i1 :: .ints i2 :: (hRuns ++ hPairs)
/-- the bits of the ten pairs -/
structure B10 where
  (b0 b1 b2 b3 b4 b5 b6 b7 b8 b9 : Bool)
noncomputable def rows (x : B10) : List (List AV) := [[iA 0, .bit x.b0, .bit x.b1, .bit x.b2, .bit x.b3], [.bit x.b0, iA 0, .bit x.b4, .bit x.b5, .bit x.b6], [.bit x.b1, .bit x.b4, iA 0, .bit x.b7, .bit x.b8], [.bit x.b2, .bit x.b5, .bit x.b7, iA 0, .bit x.b9], [.bit x.b3, .bit x.b6, .bit x.b8, .bit x.b9, iA 0]]
noncomputable def rowN (x : B10) (j : Nat) : List AV := match (rows x)[j]? with
  | some r => r
  | none => []
/-- what _law_seen lays: the rows, then what it leaves behind -/
noncomputable def hSeen (x : B10) (s0 s1 s2 s3 t : List AV) : H := [.list [.obj 64, .obj 66, .obj 68, .obj 70, .obj 72], .list [iA 0], .list (rowN x 0), .list [iA 0], .list (rowN x 1), .list [iA 0], .list (rowN x 2), .list [iA 0], .list (rowN x 3), .list [iA 0], .list (rowN x 4), .list s0, .list s1, .list s2, .list s3, .list t]
section
variable {ns : List Int}
theorem segA : ev ns lawOrc 145 (.ss (fr ⟨none, none, none, none, none, none, none, none, none, none, none, none, none, none, none, none, none, none, none, none, none, none, none, none, none, none⟩) [lS 0, lS 1, lS 2, lS 3]) [] =
    some (.fl (fr { seen := none, alone := none }) .next, hP (iA (252 + sumFrom 0 (nth3 0 ns))) (iA (0 + sumFrom 0 (nth3 1 ns))) (iA (0 + sumFrom 0 (nth3 2 ns))) (nth3 0 ns) (nth3 1 ns) (nth3 2 ns)) := by kernel_rfl
end

/-! _law_seen -/
noncomputable def eS (j : Nat) : Stmt := nthS (fnBo 18) j
noncomputable def fS (c0 : AV) (seen six one other named turned at_ : Option AV) : AF := ⟨fnNm 18, [some (.obj 51), some c0, seen, six, one, other, named, turned, at_, none, none, none]⟩
noncomputable def halfs : Nat → Int → Int
  | 0, x => x
  | n + 1, x => halfs n (Int.fdiv x 2)
noncomputable def bx (B b : Bool) : Bool := match B with
  | true => !b
  | false => b
section
variable {ns : List Int} {c0 c1 c2 : AV} {i0 i1 i2 : List Int} {x : B10} {s0 s1 s2 s3 t : List AV}

theorem sturn0 (m : Nat) (se si nm : Option AV) (T : Int) (kn : Kn) (a b c : Option AV) (he : se = some (.obj 62)) : ev ns lawOrc (m + 41) (.fo (fS c0 se si a b nm (some (.int T kn)) c) (sT (eS 6)) (.enu 51) 0 (sB (eS 6))) (hP c0 c1 c2 i0 i1 i2 ++ hSeen x s0 s1 s2 s3 t) =
    ev ns lawOrc (m + 40) (.fo (fS c0 se si (some (iA 0)) (some (iA 1)) nm (some (.int T kn)) (some (iA 0))) (sT (eS 6)) (.enu 51) 1 (sB (eS 6))) (hP c0 c1 c2 i0 i1 i2 ++ hSeen ⟨bx (Int.fmod (Int.fdiv T (2 ^ 0)) 2 == 1) x.b0, x.b1, x.b2, x.b3, x.b4, x.b5, x.b6, x.b7, x.b8, x.b9⟩ s0 s1 s2 s3 t) := by
  subst he
  have h1 : foAs (ev ns lawOrc (m + 40)) (fS c0 (some (.obj 62)) si a b nm (some (.int T kn)) c) (sT (eS 6)) (.enu 51) 0 (hP c0 c1 c2 i0 i1 i2 ++ hSeen x s0 s1 s2 s3 t) = some (.f (fS c0 (some (.obj 62)) si (some (iA 0)) (some (iA 1)) nm (some (.int T kn)) (some (iA 0))), hP c0 c1 c2 i0 i1 i2 ++ hSeen x s0 s1 s2 s3 t) := by kernel_rfl
  have ht : ev ns lawOrc (m + 38) (.t (fS c0 (some (.obj 62)) si (some (iA 0)) (some (iA 1)) nm (some (.int T kn)) (some (iA 0))) (sT (nthS (sB (eS 6)) 0))) (hP c0 c1 c2 i0 i1 i2 ++ hSeen x s0 s1 s2 s3 t) = some (.b (Int.fmod (Int.fdiv T (2 ^ 0)) 2 == 1), hP c0 c1 c2 i0 i1 i2 ++ hSeen x s0 s1 s2 s3 t) := by kernel_rfl
  refine fo_turn (k := m + 40) h1 ?_
  rw [show sB (eS 6) = [.If (sT (nthS (sB (eS 6)) 0)) (sB (nthS (sB (eS 6)) 0)) (sO (nthS (sB (eS 6)) 0)) (sP (nthS (sB (eS 6)) 0))] by kernel_rfl]
  refine ss_one (k := m + 38) ?_
  cases hB : (Int.fmod (Int.fdiv T (2 ^ 0)) 2 == 1) with
  | true =>
    rw [s_if_t (k := m + 38) ht hB]
    kernel_rfl
  | false =>
    rw [s_if_f (k := m + 38) ht hB]
    kernel_rfl

theorem sturn1 (m : Nat) (se si nm : Option AV) (T : Int) (kn : Kn) (a b c : Option AV) (he : se = some (.obj 62)) : ev ns lawOrc (m + 41) (.fo (fS c0 se si a b nm (some (.int T kn)) c) (sT (eS 6)) (.enu 51) 1 (sB (eS 6))) (hP c0 c1 c2 i0 i1 i2 ++ hSeen x s0 s1 s2 s3 t) =
    ev ns lawOrc (m + 40) (.fo (fS c0 se si (some (iA 0)) (some (iA 2)) nm (some (.int T kn)) (some (iA 1))) (sT (eS 6)) (.enu 51) 2 (sB (eS 6))) (hP c0 c1 c2 i0 i1 i2 ++ hSeen ⟨x.b0, bx (Int.fmod (Int.fdiv T (2 ^ 1)) 2 == 1) x.b1, x.b2, x.b3, x.b4, x.b5, x.b6, x.b7, x.b8, x.b9⟩ s0 s1 s2 s3 t) := by
  subst he
  have h1 : foAs (ev ns lawOrc (m + 40)) (fS c0 (some (.obj 62)) si a b nm (some (.int T kn)) c) (sT (eS 6)) (.enu 51) 1 (hP c0 c1 c2 i0 i1 i2 ++ hSeen x s0 s1 s2 s3 t) = some (.f (fS c0 (some (.obj 62)) si (some (iA 0)) (some (iA 2)) nm (some (.int T kn)) (some (iA 1))), hP c0 c1 c2 i0 i1 i2 ++ hSeen x s0 s1 s2 s3 t) := by kernel_rfl
  have ht : ev ns lawOrc (m + 38) (.t (fS c0 (some (.obj 62)) si (some (iA 0)) (some (iA 2)) nm (some (.int T kn)) (some (iA 1))) (sT (nthS (sB (eS 6)) 0))) (hP c0 c1 c2 i0 i1 i2 ++ hSeen x s0 s1 s2 s3 t) = some (.b (Int.fmod (Int.fdiv T (2 ^ 1)) 2 == 1), hP c0 c1 c2 i0 i1 i2 ++ hSeen x s0 s1 s2 s3 t) := by kernel_rfl
  refine fo_turn (k := m + 40) h1 ?_
  rw [show sB (eS 6) = [.If (sT (nthS (sB (eS 6)) 0)) (sB (nthS (sB (eS 6)) 0)) (sO (nthS (sB (eS 6)) 0)) (sP (nthS (sB (eS 6)) 0))] by kernel_rfl]
  refine ss_one (k := m + 38) ?_
  cases hB : (Int.fmod (Int.fdiv T (2 ^ 1)) 2 == 1) with
  | true =>
    rw [s_if_t (k := m + 38) ht hB]
    kernel_rfl
  | false =>
    rw [s_if_f (k := m + 38) ht hB]
    kernel_rfl

theorem sturn2 (m : Nat) (se si nm : Option AV) (T : Int) (kn : Kn) (a b c : Option AV) (he : se = some (.obj 62)) : ev ns lawOrc (m + 41) (.fo (fS c0 se si a b nm (some (.int T kn)) c) (sT (eS 6)) (.enu 51) 2 (sB (eS 6))) (hP c0 c1 c2 i0 i1 i2 ++ hSeen x s0 s1 s2 s3 t) =
    ev ns lawOrc (m + 40) (.fo (fS c0 se si (some (iA 0)) (some (iA 3)) nm (some (.int T kn)) (some (iA 2))) (sT (eS 6)) (.enu 51) 3 (sB (eS 6))) (hP c0 c1 c2 i0 i1 i2 ++ hSeen ⟨x.b0, x.b1, bx (Int.fmod (Int.fdiv T (2 ^ 2)) 2 == 1) x.b2, x.b3, x.b4, x.b5, x.b6, x.b7, x.b8, x.b9⟩ s0 s1 s2 s3 t) := by
  subst he
  have h1 : foAs (ev ns lawOrc (m + 40)) (fS c0 (some (.obj 62)) si a b nm (some (.int T kn)) c) (sT (eS 6)) (.enu 51) 2 (hP c0 c1 c2 i0 i1 i2 ++ hSeen x s0 s1 s2 s3 t) = some (.f (fS c0 (some (.obj 62)) si (some (iA 0)) (some (iA 3)) nm (some (.int T kn)) (some (iA 2))), hP c0 c1 c2 i0 i1 i2 ++ hSeen x s0 s1 s2 s3 t) := by kernel_rfl
  have ht : ev ns lawOrc (m + 38) (.t (fS c0 (some (.obj 62)) si (some (iA 0)) (some (iA 3)) nm (some (.int T kn)) (some (iA 2))) (sT (nthS (sB (eS 6)) 0))) (hP c0 c1 c2 i0 i1 i2 ++ hSeen x s0 s1 s2 s3 t) = some (.b (Int.fmod (Int.fdiv T (2 ^ 2)) 2 == 1), hP c0 c1 c2 i0 i1 i2 ++ hSeen x s0 s1 s2 s3 t) := by kernel_rfl
  refine fo_turn (k := m + 40) h1 ?_
  rw [show sB (eS 6) = [.If (sT (nthS (sB (eS 6)) 0)) (sB (nthS (sB (eS 6)) 0)) (sO (nthS (sB (eS 6)) 0)) (sP (nthS (sB (eS 6)) 0))] by kernel_rfl]
  refine ss_one (k := m + 38) ?_
  cases hB : (Int.fmod (Int.fdiv T (2 ^ 2)) 2 == 1) with
  | true =>
    rw [s_if_t (k := m + 38) ht hB]
    kernel_rfl
  | false =>
    rw [s_if_f (k := m + 38) ht hB]
    kernel_rfl

theorem sturn3 (m : Nat) (se si nm : Option AV) (T : Int) (kn : Kn) (a b c : Option AV) (he : se = some (.obj 62)) : ev ns lawOrc (m + 41) (.fo (fS c0 se si a b nm (some (.int T kn)) c) (sT (eS 6)) (.enu 51) 3 (sB (eS 6))) (hP c0 c1 c2 i0 i1 i2 ++ hSeen x s0 s1 s2 s3 t) =
    ev ns lawOrc (m + 40) (.fo (fS c0 se si (some (iA 0)) (some (iA 4)) nm (some (.int T kn)) (some (iA 3))) (sT (eS 6)) (.enu 51) 4 (sB (eS 6))) (hP c0 c1 c2 i0 i1 i2 ++ hSeen ⟨x.b0, x.b1, x.b2, bx (Int.fmod (Int.fdiv T (2 ^ 3)) 2 == 1) x.b3, x.b4, x.b5, x.b6, x.b7, x.b8, x.b9⟩ s0 s1 s2 s3 t) := by
  subst he
  have h1 : foAs (ev ns lawOrc (m + 40)) (fS c0 (some (.obj 62)) si a b nm (some (.int T kn)) c) (sT (eS 6)) (.enu 51) 3 (hP c0 c1 c2 i0 i1 i2 ++ hSeen x s0 s1 s2 s3 t) = some (.f (fS c0 (some (.obj 62)) si (some (iA 0)) (some (iA 4)) nm (some (.int T kn)) (some (iA 3))), hP c0 c1 c2 i0 i1 i2 ++ hSeen x s0 s1 s2 s3 t) := by kernel_rfl
  have ht : ev ns lawOrc (m + 38) (.t (fS c0 (some (.obj 62)) si (some (iA 0)) (some (iA 4)) nm (some (.int T kn)) (some (iA 3))) (sT (nthS (sB (eS 6)) 0))) (hP c0 c1 c2 i0 i1 i2 ++ hSeen x s0 s1 s2 s3 t) = some (.b (Int.fmod (Int.fdiv T (2 ^ 3)) 2 == 1), hP c0 c1 c2 i0 i1 i2 ++ hSeen x s0 s1 s2 s3 t) := by kernel_rfl
  refine fo_turn (k := m + 40) h1 ?_
  rw [show sB (eS 6) = [.If (sT (nthS (sB (eS 6)) 0)) (sB (nthS (sB (eS 6)) 0)) (sO (nthS (sB (eS 6)) 0)) (sP (nthS (sB (eS 6)) 0))] by kernel_rfl]
  refine ss_one (k := m + 38) ?_
  cases hB : (Int.fmod (Int.fdiv T (2 ^ 3)) 2 == 1) with
  | true =>
    rw [s_if_t (k := m + 38) ht hB]
    kernel_rfl
  | false =>
    rw [s_if_f (k := m + 38) ht hB]
    kernel_rfl

theorem sturn4 (m : Nat) (se si nm : Option AV) (T : Int) (kn : Kn) (a b c : Option AV) (he : se = some (.obj 62)) : ev ns lawOrc (m + 41) (.fo (fS c0 se si a b nm (some (.int T kn)) c) (sT (eS 6)) (.enu 51) 4 (sB (eS 6))) (hP c0 c1 c2 i0 i1 i2 ++ hSeen x s0 s1 s2 s3 t) =
    ev ns lawOrc (m + 40) (.fo (fS c0 se si (some (iA 1)) (some (iA 2)) nm (some (.int T kn)) (some (iA 4))) (sT (eS 6)) (.enu 51) 5 (sB (eS 6))) (hP c0 c1 c2 i0 i1 i2 ++ hSeen ⟨x.b0, x.b1, x.b2, x.b3, bx (Int.fmod (Int.fdiv T (2 ^ 4)) 2 == 1) x.b4, x.b5, x.b6, x.b7, x.b8, x.b9⟩ s0 s1 s2 s3 t) := by
  subst he
  have h1 : foAs (ev ns lawOrc (m + 40)) (fS c0 (some (.obj 62)) si a b nm (some (.int T kn)) c) (sT (eS 6)) (.enu 51) 4 (hP c0 c1 c2 i0 i1 i2 ++ hSeen x s0 s1 s2 s3 t) = some (.f (fS c0 (some (.obj 62)) si (some (iA 1)) (some (iA 2)) nm (some (.int T kn)) (some (iA 4))), hP c0 c1 c2 i0 i1 i2 ++ hSeen x s0 s1 s2 s3 t) := by kernel_rfl
  have ht : ev ns lawOrc (m + 38) (.t (fS c0 (some (.obj 62)) si (some (iA 1)) (some (iA 2)) nm (some (.int T kn)) (some (iA 4))) (sT (nthS (sB (eS 6)) 0))) (hP c0 c1 c2 i0 i1 i2 ++ hSeen x s0 s1 s2 s3 t) = some (.b (Int.fmod (Int.fdiv T (2 ^ 4)) 2 == 1), hP c0 c1 c2 i0 i1 i2 ++ hSeen x s0 s1 s2 s3 t) := by kernel_rfl
  refine fo_turn (k := m + 40) h1 ?_
  rw [show sB (eS 6) = [.If (sT (nthS (sB (eS 6)) 0)) (sB (nthS (sB (eS 6)) 0)) (sO (nthS (sB (eS 6)) 0)) (sP (nthS (sB (eS 6)) 0))] by kernel_rfl]
  refine ss_one (k := m + 38) ?_
  cases hB : (Int.fmod (Int.fdiv T (2 ^ 4)) 2 == 1) with
  | true =>
    rw [s_if_t (k := m + 38) ht hB]
    kernel_rfl
  | false =>
    rw [s_if_f (k := m + 38) ht hB]
    kernel_rfl

theorem sturn5 (m : Nat) (se si nm : Option AV) (T : Int) (kn : Kn) (a b c : Option AV) (he : se = some (.obj 62)) : ev ns lawOrc (m + 41) (.fo (fS c0 se si a b nm (some (.int T kn)) c) (sT (eS 6)) (.enu 51) 5 (sB (eS 6))) (hP c0 c1 c2 i0 i1 i2 ++ hSeen x s0 s1 s2 s3 t) =
    ev ns lawOrc (m + 40) (.fo (fS c0 se si (some (iA 1)) (some (iA 3)) nm (some (.int T kn)) (some (iA 5))) (sT (eS 6)) (.enu 51) 6 (sB (eS 6))) (hP c0 c1 c2 i0 i1 i2 ++ hSeen ⟨x.b0, x.b1, x.b2, x.b3, x.b4, bx (Int.fmod (Int.fdiv T (2 ^ 5)) 2 == 1) x.b5, x.b6, x.b7, x.b8, x.b9⟩ s0 s1 s2 s3 t) := by
  subst he
  have h1 : foAs (ev ns lawOrc (m + 40)) (fS c0 (some (.obj 62)) si a b nm (some (.int T kn)) c) (sT (eS 6)) (.enu 51) 5 (hP c0 c1 c2 i0 i1 i2 ++ hSeen x s0 s1 s2 s3 t) = some (.f (fS c0 (some (.obj 62)) si (some (iA 1)) (some (iA 3)) nm (some (.int T kn)) (some (iA 5))), hP c0 c1 c2 i0 i1 i2 ++ hSeen x s0 s1 s2 s3 t) := by kernel_rfl
  have ht : ev ns lawOrc (m + 38) (.t (fS c0 (some (.obj 62)) si (some (iA 1)) (some (iA 3)) nm (some (.int T kn)) (some (iA 5))) (sT (nthS (sB (eS 6)) 0))) (hP c0 c1 c2 i0 i1 i2 ++ hSeen x s0 s1 s2 s3 t) = some (.b (Int.fmod (Int.fdiv T (2 ^ 5)) 2 == 1), hP c0 c1 c2 i0 i1 i2 ++ hSeen x s0 s1 s2 s3 t) := by kernel_rfl
  refine fo_turn (k := m + 40) h1 ?_
  rw [show sB (eS 6) = [.If (sT (nthS (sB (eS 6)) 0)) (sB (nthS (sB (eS 6)) 0)) (sO (nthS (sB (eS 6)) 0)) (sP (nthS (sB (eS 6)) 0))] by kernel_rfl]
  refine ss_one (k := m + 38) ?_
  cases hB : (Int.fmod (Int.fdiv T (2 ^ 5)) 2 == 1) with
  | true =>
    rw [s_if_t (k := m + 38) ht hB]
    kernel_rfl
  | false =>
    rw [s_if_f (k := m + 38) ht hB]
    kernel_rfl

theorem sturn6 (m : Nat) (se si nm : Option AV) (T : Int) (kn : Kn) (a b c : Option AV) (he : se = some (.obj 62)) : ev ns lawOrc (m + 41) (.fo (fS c0 se si a b nm (some (.int T kn)) c) (sT (eS 6)) (.enu 51) 6 (sB (eS 6))) (hP c0 c1 c2 i0 i1 i2 ++ hSeen x s0 s1 s2 s3 t) =
    ev ns lawOrc (m + 40) (.fo (fS c0 se si (some (iA 1)) (some (iA 4)) nm (some (.int T kn)) (some (iA 6))) (sT (eS 6)) (.enu 51) 7 (sB (eS 6))) (hP c0 c1 c2 i0 i1 i2 ++ hSeen ⟨x.b0, x.b1, x.b2, x.b3, x.b4, x.b5, bx (Int.fmod (Int.fdiv T (2 ^ 6)) 2 == 1) x.b6, x.b7, x.b8, x.b9⟩ s0 s1 s2 s3 t) := by
  subst he
  have h1 : foAs (ev ns lawOrc (m + 40)) (fS c0 (some (.obj 62)) si a b nm (some (.int T kn)) c) (sT (eS 6)) (.enu 51) 6 (hP c0 c1 c2 i0 i1 i2 ++ hSeen x s0 s1 s2 s3 t) = some (.f (fS c0 (some (.obj 62)) si (some (iA 1)) (some (iA 4)) nm (some (.int T kn)) (some (iA 6))), hP c0 c1 c2 i0 i1 i2 ++ hSeen x s0 s1 s2 s3 t) := by kernel_rfl
  have ht : ev ns lawOrc (m + 38) (.t (fS c0 (some (.obj 62)) si (some (iA 1)) (some (iA 4)) nm (some (.int T kn)) (some (iA 6))) (sT (nthS (sB (eS 6)) 0))) (hP c0 c1 c2 i0 i1 i2 ++ hSeen x s0 s1 s2 s3 t) = some (.b (Int.fmod (Int.fdiv T (2 ^ 6)) 2 == 1), hP c0 c1 c2 i0 i1 i2 ++ hSeen x s0 s1 s2 s3 t) := by kernel_rfl
  refine fo_turn (k := m + 40) h1 ?_
  rw [show sB (eS 6) = [.If (sT (nthS (sB (eS 6)) 0)) (sB (nthS (sB (eS 6)) 0)) (sO (nthS (sB (eS 6)) 0)) (sP (nthS (sB (eS 6)) 0))] by kernel_rfl]
  refine ss_one (k := m + 38) ?_
  cases hB : (Int.fmod (Int.fdiv T (2 ^ 6)) 2 == 1) with
  | true =>
    rw [s_if_t (k := m + 38) ht hB]
    kernel_rfl
  | false =>
    rw [s_if_f (k := m + 38) ht hB]
    kernel_rfl

theorem sturn7 (m : Nat) (se si nm : Option AV) (T : Int) (kn : Kn) (a b c : Option AV) (he : se = some (.obj 62)) : ev ns lawOrc (m + 41) (.fo (fS c0 se si a b nm (some (.int T kn)) c) (sT (eS 6)) (.enu 51) 7 (sB (eS 6))) (hP c0 c1 c2 i0 i1 i2 ++ hSeen x s0 s1 s2 s3 t) =
    ev ns lawOrc (m + 40) (.fo (fS c0 se si (some (iA 2)) (some (iA 3)) nm (some (.int T kn)) (some (iA 7))) (sT (eS 6)) (.enu 51) 8 (sB (eS 6))) (hP c0 c1 c2 i0 i1 i2 ++ hSeen ⟨x.b0, x.b1, x.b2, x.b3, x.b4, x.b5, x.b6, bx (Int.fmod (Int.fdiv T (2 ^ 7)) 2 == 1) x.b7, x.b8, x.b9⟩ s0 s1 s2 s3 t) := by
  subst he
  have h1 : foAs (ev ns lawOrc (m + 40)) (fS c0 (some (.obj 62)) si a b nm (some (.int T kn)) c) (sT (eS 6)) (.enu 51) 7 (hP c0 c1 c2 i0 i1 i2 ++ hSeen x s0 s1 s2 s3 t) = some (.f (fS c0 (some (.obj 62)) si (some (iA 2)) (some (iA 3)) nm (some (.int T kn)) (some (iA 7))), hP c0 c1 c2 i0 i1 i2 ++ hSeen x s0 s1 s2 s3 t) := by kernel_rfl
  have ht : ev ns lawOrc (m + 38) (.t (fS c0 (some (.obj 62)) si (some (iA 2)) (some (iA 3)) nm (some (.int T kn)) (some (iA 7))) (sT (nthS (sB (eS 6)) 0))) (hP c0 c1 c2 i0 i1 i2 ++ hSeen x s0 s1 s2 s3 t) = some (.b (Int.fmod (Int.fdiv T (2 ^ 7)) 2 == 1), hP c0 c1 c2 i0 i1 i2 ++ hSeen x s0 s1 s2 s3 t) := by kernel_rfl
  refine fo_turn (k := m + 40) h1 ?_
  rw [show sB (eS 6) = [.If (sT (nthS (sB (eS 6)) 0)) (sB (nthS (sB (eS 6)) 0)) (sO (nthS (sB (eS 6)) 0)) (sP (nthS (sB (eS 6)) 0))] by kernel_rfl]
  refine ss_one (k := m + 38) ?_
  cases hB : (Int.fmod (Int.fdiv T (2 ^ 7)) 2 == 1) with
  | true =>
    rw [s_if_t (k := m + 38) ht hB]
    kernel_rfl
  | false =>
    rw [s_if_f (k := m + 38) ht hB]
    kernel_rfl

theorem sturn8 (m : Nat) (se si nm : Option AV) (T : Int) (kn : Kn) (a b c : Option AV) (he : se = some (.obj 62)) : ev ns lawOrc (m + 41) (.fo (fS c0 se si a b nm (some (.int T kn)) c) (sT (eS 6)) (.enu 51) 8 (sB (eS 6))) (hP c0 c1 c2 i0 i1 i2 ++ hSeen x s0 s1 s2 s3 t) =
    ev ns lawOrc (m + 40) (.fo (fS c0 se si (some (iA 2)) (some (iA 4)) nm (some (.int T kn)) (some (iA 8))) (sT (eS 6)) (.enu 51) 9 (sB (eS 6))) (hP c0 c1 c2 i0 i1 i2 ++ hSeen ⟨x.b0, x.b1, x.b2, x.b3, x.b4, x.b5, x.b6, x.b7, bx (Int.fmod (Int.fdiv T (2 ^ 8)) 2 == 1) x.b8, x.b9⟩ s0 s1 s2 s3 t) := by
  subst he
  have h1 : foAs (ev ns lawOrc (m + 40)) (fS c0 (some (.obj 62)) si a b nm (some (.int T kn)) c) (sT (eS 6)) (.enu 51) 8 (hP c0 c1 c2 i0 i1 i2 ++ hSeen x s0 s1 s2 s3 t) = some (.f (fS c0 (some (.obj 62)) si (some (iA 2)) (some (iA 4)) nm (some (.int T kn)) (some (iA 8))), hP c0 c1 c2 i0 i1 i2 ++ hSeen x s0 s1 s2 s3 t) := by kernel_rfl
  have ht : ev ns lawOrc (m + 38) (.t (fS c0 (some (.obj 62)) si (some (iA 2)) (some (iA 4)) nm (some (.int T kn)) (some (iA 8))) (sT (nthS (sB (eS 6)) 0))) (hP c0 c1 c2 i0 i1 i2 ++ hSeen x s0 s1 s2 s3 t) = some (.b (Int.fmod (Int.fdiv T (2 ^ 8)) 2 == 1), hP c0 c1 c2 i0 i1 i2 ++ hSeen x s0 s1 s2 s3 t) := by kernel_rfl
  refine fo_turn (k := m + 40) h1 ?_
  rw [show sB (eS 6) = [.If (sT (nthS (sB (eS 6)) 0)) (sB (nthS (sB (eS 6)) 0)) (sO (nthS (sB (eS 6)) 0)) (sP (nthS (sB (eS 6)) 0))] by kernel_rfl]
  refine ss_one (k := m + 38) ?_
  cases hB : (Int.fmod (Int.fdiv T (2 ^ 8)) 2 == 1) with
  | true =>
    rw [s_if_t (k := m + 38) ht hB]
    kernel_rfl
  | false =>
    rw [s_if_f (k := m + 38) ht hB]
    kernel_rfl

theorem sturn9 (m : Nat) (se si nm : Option AV) (T : Int) (kn : Kn) (a b c : Option AV) (he : se = some (.obj 62)) : ev ns lawOrc (m + 41) (.fo (fS c0 se si a b nm (some (.int T kn)) c) (sT (eS 6)) (.enu 51) 9 (sB (eS 6))) (hP c0 c1 c2 i0 i1 i2 ++ hSeen x s0 s1 s2 s3 t) =
    ev ns lawOrc (m + 40) (.fo (fS c0 se si (some (iA 3)) (some (iA 4)) nm (some (.int T kn)) (some (iA 9))) (sT (eS 6)) (.enu 51) 10 (sB (eS 6))) (hP c0 c1 c2 i0 i1 i2 ++ hSeen ⟨x.b0, x.b1, x.b2, x.b3, x.b4, x.b5, x.b6, x.b7, x.b8, bx (Int.fmod (Int.fdiv T (2 ^ 9)) 2 == 1) x.b9⟩ s0 s1 s2 s3 t) := by
  subst he
  have h1 : foAs (ev ns lawOrc (m + 40)) (fS c0 (some (.obj 62)) si a b nm (some (.int T kn)) c) (sT (eS 6)) (.enu 51) 9 (hP c0 c1 c2 i0 i1 i2 ++ hSeen x s0 s1 s2 s3 t) = some (.f (fS c0 (some (.obj 62)) si (some (iA 3)) (some (iA 4)) nm (some (.int T kn)) (some (iA 9))), hP c0 c1 c2 i0 i1 i2 ++ hSeen x s0 s1 s2 s3 t) := by kernel_rfl
  have ht : ev ns lawOrc (m + 38) (.t (fS c0 (some (.obj 62)) si (some (iA 3)) (some (iA 4)) nm (some (.int T kn)) (some (iA 9))) (sT (nthS (sB (eS 6)) 0))) (hP c0 c1 c2 i0 i1 i2 ++ hSeen x s0 s1 s2 s3 t) = some (.b (Int.fmod (Int.fdiv T (2 ^ 9)) 2 == 1), hP c0 c1 c2 i0 i1 i2 ++ hSeen x s0 s1 s2 s3 t) := by kernel_rfl
  refine fo_turn (k := m + 40) h1 ?_
  rw [show sB (eS 6) = [.If (sT (nthS (sB (eS 6)) 0)) (sB (nthS (sB (eS 6)) 0)) (sO (nthS (sB (eS 6)) 0)) (sP (nthS (sB (eS 6)) 0))] by kernel_rfl]
  refine ss_one (k := m + 38) ?_
  cases hB : (Int.fmod (Int.fdiv T (2 ^ 9)) 2 == 1) with
  | true =>
    rw [s_if_t (k := m + 38) ht hB]
    kernel_rfl
  | false =>
    rw [s_if_f (k := m + 38) ht hB]
    kernel_rfl

end
end Mine
set_option maxRecDepth 100000
open PySem PySem.W PyProof.Rows
namespace Mine
/-! the law's main loop -/
noncomputable def rowIx : Nat → Nat
  | 0 => 14 | 1 => 42 | 2 => 45 | 3 => 47 | 4 => 49 | 5 => 37 | _ => 40
noncomputable def addT (b : Bool) (T p : Int) : Int := match b with
  | true => T + p
  | false => T
noncomputable def tabK (b : Bool) (j : Nat) (x : Int) : AV := match b with
  | true => .int (withinF j x) (.tab j true)
  | false => .int (beyondF j x) (.tab j false)
structure J8 where
  (a b c d e f g h : Option AV)
noncomputable def fM (j : J8) (T : Int) : LV := { at_ := j.a, one := j.b, other := j.c, ties := some (iA T), row := j.d, figure := j.e, due := j.f, code := j.g, answer := j.h }
section
variable {ns : List Int} {c0 : AV} {a1 a2 : Int} {i0 i1 i2 : List Int} {s0 s1 s2 s3 t : List AV}

noncomputable def hM0 (c0 : AV) (a1 a2 : Int) (r : Nat) (i0 i1 i2 : List Int) (x : B10) (s0 s1 s2 s3 t : List AV) : H := hP c0 (iA a1) (.int a2 (.res 7 r)) i0 i1 i2 ++ (hSeen x s0 s1 s2 s3 t ++ .list [] :: [])
noncomputable def hM1 (c0 : AV) (a1 a2 : Int) (r : Nat) (i0 i1 i2 : List Int) (x : B10) (s0 s1 s2 s3 t : List AV) : H := hP c0 (iA a1) (.int a2 (.res 7 r)) i0 i1 i2 ++ (hSeen x s0 s1 s2 s3 t ++ .list [iA 1] :: [.list [iA 1]])
noncomputable def hM2 (c0 : AV) (a1 a2 : Int) (r : Nat) (i0 i1 i2 : List Int) (x : B10) (s0 s1 s2 s3 t : List AV) : H := hP c0 (iA a1) (.int a2 (.res 7 r)) i0 i1 i2 ++ (hSeen x s0 s1 s2 s3 t ++ .list [iA 1, iA 16] :: [.list [iA 1], .list [iA 16]])
noncomputable def hM3 (c0 : AV) (a1 a2 : Int) (r : Nat) (i0 i1 i2 : List Int) (x : B10) (s0 s1 s2 s3 t : List AV) : H := hP c0 (iA a1) (.int a2 (.res 7 r)) i0 i1 i2 ++ (hSeen x s0 s1 s2 s3 t ++ .list [iA 1, iA 16, iA 256] :: [.list [iA 1], .list [iA 16], .list [iA 256]])
noncomputable def hM4 (c0 : AV) (a1 a2 : Int) (r : Nat) (i0 i1 i2 : List Int) (x : B10) (s0 s1 s2 s3 t : List AV) : H := hP c0 (iA a1) (.int a2 (.res 7 r)) i0 i1 i2 ++ (hSeen x s0 s1 s2 s3 t ++ .list [iA 1, iA 16, iA 256, iA 4096] :: [.list [iA 1], .list [iA 16], .list [iA 256], .list [iA 4096]])
noncomputable def hM5 (c0 : AV) (a1 a2 : Int) (r : Nat) (i0 i1 i2 : List Int) (x : B10) (s0 s1 s2 s3 t : List AV) : H := hP c0 (iA a1) (.int a2 (.res 7 r)) i0 i1 i2 ++ (hSeen x s0 s1 s2 s3 t ++ .list [iA 1, iA 16, iA 256, iA 4096, iA 65536] :: [.list [iA 1], .list [iA 16], .list [iA 256], .list [iA 4096], .list [iA 65536]])
noncomputable def hM6 (c0 : AV) (a1 a2 : Int) (r : Nat) (i0 i1 i2 : List Int) (x : B10) (s0 s1 s2 s3 t : List AV) : H := hP c0 (iA a1) (.int a2 (.res 7 r)) i0 i1 i2 ++ (hSeen x s0 s1 s2 s3 t ++ .list [iA 1, iA 16, iA 256, iA 4096, iA 65536, iA 1048576] :: [.list [iA 1], .list [iA 16], .list [iA 256], .list [iA 4096], .list [iA 65536], .list [iA 1048576]])
noncomputable def hM7 (c0 : AV) (a1 a2 : Int) (r : Nat) (i0 i1 i2 : List Int) (x : B10) (s0 s1 s2 s3 t : List AV) : H := hP c0 (iA a1) (.int a2 (.res 7 r)) i0 i1 i2 ++ (hSeen x s0 s1 s2 s3 t ++ .list [iA 1, iA 16, iA 256, iA 4096, iA 65536, iA 1048576, iA 16777216] :: [.list [iA 1], .list [iA 16], .list [iA 256], .list [iA 4096], .list [iA 65536], .list [iA 1048576], .list [iA 16777216]])
noncomputable def hM8 (c0 : AV) (a1 a2 : Int) (r : Nat) (i0 i1 i2 : List Int) (x : B10) (s0 s1 s2 s3 t : List AV) : H := hP c0 (iA a1) (.int a2 (.res 7 r)) i0 i1 i2 ++ (hSeen x s0 s1 s2 s3 t ++ .list [iA 1, iA 16, iA 256, iA 4096, iA 65536, iA 1048576, iA 16777216, iA 268435456] :: [.list [iA 1], .list [iA 16], .list [iA 256], .list [iA 4096], .list [iA 65536], .list [iA 1048576], .list [iA 16777216], .list [iA 268435456]])
noncomputable def hM9 (c0 : AV) (a1 a2 : Int) (r : Nat) (i0 i1 i2 : List Int) (x : B10) (s0 s1 s2 s3 t : List AV) : H := hP c0 (iA a1) (.int a2 (.res 7 r)) i0 i1 i2 ++ (hSeen x s0 s1 s2 s3 t ++ .list [iA 1, iA 16, iA 256, iA 4096, iA 65536, iA 1048576, iA 16777216, iA 268435456, iA 4294967296] :: [.list [iA 1], .list [iA 16], .list [iA 256], .list [iA 4096], .list [iA 65536], .list [iA 1048576], .list [iA 16777216], .list [iA 268435456], .list [iA 4294967296]])
noncomputable def hM10 (c0 : AV) (a1 a2 : Int) (r : Nat) (i0 i1 i2 : List Int) (x : B10) (s0 s1 s2 s3 t : List AV) : H := hP c0 (iA a1) (.int a2 (.res 7 r)) i0 i1 i2 ++ (hSeen x s0 s1 s2 s3 t ++ .list [iA 1, iA 16, iA 256, iA 4096, iA 65536, iA 1048576, iA 16777216, iA 268435456, iA 4294967296, iA 68719476736] :: [.list [iA 1], .list [iA 16], .list [iA 256], .list [iA 4096], .list [iA 65536], .list [iA 1048576], .list [iA 16777216], .list [iA 268435456], .list [iA 4294967296], .list [iA 68719476736]])
theorem mt0_true (m r : Nat) (hr : r < 7) (b1 b2 b3 b4 b5 b6 b7 b8 b9 : Bool) (T : Int) (v : J8) : foTu (ev ns lawOrc (m + 60)) (fr (fM v T)) (sT (lS 7)) (.enu 51) 0 (sB (lS 7)) (hM0 c0 a1 a2 r i0 i1 i2 ⟨true, b1, b2, b3, b4, b5, b6, b7, b8, b9⟩ s0 s1 s2 s3 t) =
    some (.fl (fr (fM ⟨some (iA 0), some (iA 0), some (iA 1), some (.obj (rowIx ((r + 0) % 7))), some (iA (1001 * (0 + 1) + a1)), some (.bool true), some (tabK true ((r + 0) % 7) (1001 * (0 + 1) + a1)), some (.bool true)⟩ (addT true T 1))) .next, hM1 c0 a1 a2 r i0 i1 i2 ⟨true, b1, b2, b3, b4, b5, b6, b7, b8, b9⟩ s0 s1 s2 s3 t) := by
  rcases r with _ | _ | _ | _ | _ | _ | _ | r
  all_goals first | (exfalso; omega; done) | kernel_rfl

theorem mt0_false (m r : Nat) (hr : r < 7) (b1 b2 b3 b4 b5 b6 b7 b8 b9 : Bool) (T : Int) (v : J8) : foTu (ev ns lawOrc (m + 60)) (fr (fM v T)) (sT (lS 7)) (.enu 51) 0 (sB (lS 7)) (hM0 c0 a1 a2 r i0 i1 i2 ⟨false, b1, b2, b3, b4, b5, b6, b7, b8, b9⟩ s0 s1 s2 s3 t) =
    some (.fl (fr (fM ⟨some (iA 0), some (iA 0), some (iA 1), some (.obj (rowIx ((r + 0) % 7))), some (iA (1001 * (0 + 1) + a1)), some (.bool false), some (tabK false ((r + 0) % 7) (1001 * (0 + 1) + a1)), some (.bool false)⟩ (addT false T 1))) .next, hM1 c0 a1 a2 r i0 i1 i2 ⟨false, b1, b2, b3, b4, b5, b6, b7, b8, b9⟩ s0 s1 s2 s3 t) := by
  rcases r with _ | _ | _ | _ | _ | _ | _ | r
  all_goals first | (exfalso; omega; done) | kernel_rfl

theorem mt0 (m r : Nat) (hr : r < 7) (x : B10) (T : Int) (v : J8) : ∃ w : J8, ev ns lawOrc (m + 61) (.fo (fr (fM v T)) (sT (lS 7)) (.enu 51) 0 (sB (lS 7))) (hM0 c0 a1 a2 r i0 i1 i2 x s0 s1 s2 s3 t) =
    ev ns lawOrc (m + 60) (.fo (fr (fM w (addT x.b0 T 1))) (sT (lS 7)) (.enu 51) 1 (sB (lS 7))) (hM1 c0 a1 a2 r i0 i1 i2 x s0 s1 s2 s3 t) := by
  obtain ⟨b0, b1, b2, b3, b4, b5, b6, b7, b8, b9⟩ := x
  cases b0 with
  | true => exact ⟨_, fo_go (mt0_true m r hr b1 b2 b3 b4 b5 b6 b7 b8 b9 T v)⟩
  | false => exact ⟨_, fo_go (mt0_false m r hr b1 b2 b3 b4 b5 b6 b7 b8 b9 T v)⟩

theorem mt1_true (m r : Nat) (hr : r < 7) (b0 b2 b3 b4 b5 b6 b7 b8 b9 : Bool) (T : Int) (v : J8) : foTu (ev ns lawOrc (m + 60)) (fr (fM v T)) (sT (lS 7)) (.enu 51) 1 (sB (lS 7)) (hM1 c0 a1 a2 r i0 i1 i2 ⟨b0, true, b2, b3, b4, b5, b6, b7, b8, b9⟩ s0 s1 s2 s3 t) =
    some (.fl (fr (fM ⟨some (iA 1), some (iA 0), some (iA 2), some (.obj (rowIx ((r + 1) % 7))), some (iA (1001 * (1 + 1) + a1)), some (.bool true), some (tabK true ((r + 1) % 7) (1001 * (1 + 1) + a1)), some (.bool true)⟩ (addT true T 16))) .next, hM2 c0 a1 a2 r i0 i1 i2 ⟨b0, true, b2, b3, b4, b5, b6, b7, b8, b9⟩ s0 s1 s2 s3 t) := by
  rcases r with _ | _ | _ | _ | _ | _ | _ | r
  all_goals first | (exfalso; omega; done) | kernel_rfl

theorem mt1_false (m r : Nat) (hr : r < 7) (b0 b2 b3 b4 b5 b6 b7 b8 b9 : Bool) (T : Int) (v : J8) : foTu (ev ns lawOrc (m + 60)) (fr (fM v T)) (sT (lS 7)) (.enu 51) 1 (sB (lS 7)) (hM1 c0 a1 a2 r i0 i1 i2 ⟨b0, false, b2, b3, b4, b5, b6, b7, b8, b9⟩ s0 s1 s2 s3 t) =
    some (.fl (fr (fM ⟨some (iA 1), some (iA 0), some (iA 2), some (.obj (rowIx ((r + 1) % 7))), some (iA (1001 * (1 + 1) + a1)), some (.bool false), some (tabK false ((r + 1) % 7) (1001 * (1 + 1) + a1)), some (.bool false)⟩ (addT false T 16))) .next, hM2 c0 a1 a2 r i0 i1 i2 ⟨b0, false, b2, b3, b4, b5, b6, b7, b8, b9⟩ s0 s1 s2 s3 t) := by
  rcases r with _ | _ | _ | _ | _ | _ | _ | r
  all_goals first | (exfalso; omega; done) | kernel_rfl

theorem mt1 (m r : Nat) (hr : r < 7) (x : B10) (T : Int) (v : J8) : ∃ w : J8, ev ns lawOrc (m + 61) (.fo (fr (fM v T)) (sT (lS 7)) (.enu 51) 1 (sB (lS 7))) (hM1 c0 a1 a2 r i0 i1 i2 x s0 s1 s2 s3 t) =
    ev ns lawOrc (m + 60) (.fo (fr (fM w (addT x.b1 T 16))) (sT (lS 7)) (.enu 51) 2 (sB (lS 7))) (hM2 c0 a1 a2 r i0 i1 i2 x s0 s1 s2 s3 t) := by
  obtain ⟨b0, b1, b2, b3, b4, b5, b6, b7, b8, b9⟩ := x
  cases b1 with
  | true => exact ⟨_, fo_go (mt1_true m r hr b0 b2 b3 b4 b5 b6 b7 b8 b9 T v)⟩
  | false => exact ⟨_, fo_go (mt1_false m r hr b0 b2 b3 b4 b5 b6 b7 b8 b9 T v)⟩

theorem mt2_true (m r : Nat) (hr : r < 7) (b0 b1 b3 b4 b5 b6 b7 b8 b9 : Bool) (T : Int) (v : J8) : foTu (ev ns lawOrc (m + 60)) (fr (fM v T)) (sT (lS 7)) (.enu 51) 2 (sB (lS 7)) (hM2 c0 a1 a2 r i0 i1 i2 ⟨b0, b1, true, b3, b4, b5, b6, b7, b8, b9⟩ s0 s1 s2 s3 t) =
    some (.fl (fr (fM ⟨some (iA 2), some (iA 0), some (iA 3), some (.obj (rowIx ((r + 2) % 7))), some (iA (1001 * (2 + 1) + a1)), some (.bool true), some (tabK true ((r + 2) % 7) (1001 * (2 + 1) + a1)), some (.bool true)⟩ (addT true T 256))) .next, hM3 c0 a1 a2 r i0 i1 i2 ⟨b0, b1, true, b3, b4, b5, b6, b7, b8, b9⟩ s0 s1 s2 s3 t) := by
  rcases r with _ | _ | _ | _ | _ | _ | _ | r
  all_goals first | (exfalso; omega; done) | kernel_rfl

theorem mt2_false (m r : Nat) (hr : r < 7) (b0 b1 b3 b4 b5 b6 b7 b8 b9 : Bool) (T : Int) (v : J8) : foTu (ev ns lawOrc (m + 60)) (fr (fM v T)) (sT (lS 7)) (.enu 51) 2 (sB (lS 7)) (hM2 c0 a1 a2 r i0 i1 i2 ⟨b0, b1, false, b3, b4, b5, b6, b7, b8, b9⟩ s0 s1 s2 s3 t) =
    some (.fl (fr (fM ⟨some (iA 2), some (iA 0), some (iA 3), some (.obj (rowIx ((r + 2) % 7))), some (iA (1001 * (2 + 1) + a1)), some (.bool false), some (tabK false ((r + 2) % 7) (1001 * (2 + 1) + a1)), some (.bool false)⟩ (addT false T 256))) .next, hM3 c0 a1 a2 r i0 i1 i2 ⟨b0, b1, false, b3, b4, b5, b6, b7, b8, b9⟩ s0 s1 s2 s3 t) := by
  rcases r with _ | _ | _ | _ | _ | _ | _ | r
  all_goals first | (exfalso; omega; done) | kernel_rfl

theorem mt2 (m r : Nat) (hr : r < 7) (x : B10) (T : Int) (v : J8) : ∃ w : J8, ev ns lawOrc (m + 61) (.fo (fr (fM v T)) (sT (lS 7)) (.enu 51) 2 (sB (lS 7))) (hM2 c0 a1 a2 r i0 i1 i2 x s0 s1 s2 s3 t) =
    ev ns lawOrc (m + 60) (.fo (fr (fM w (addT x.b2 T 256))) (sT (lS 7)) (.enu 51) 3 (sB (lS 7))) (hM3 c0 a1 a2 r i0 i1 i2 x s0 s1 s2 s3 t) := by
  obtain ⟨b0, b1, b2, b3, b4, b5, b6, b7, b8, b9⟩ := x
  cases b2 with
  | true => exact ⟨_, fo_go (mt2_true m r hr b0 b1 b3 b4 b5 b6 b7 b8 b9 T v)⟩
  | false => exact ⟨_, fo_go (mt2_false m r hr b0 b1 b3 b4 b5 b6 b7 b8 b9 T v)⟩

theorem mt3_true (m r : Nat) (hr : r < 7) (b0 b1 b2 b4 b5 b6 b7 b8 b9 : Bool) (T : Int) (v : J8) : foTu (ev ns lawOrc (m + 60)) (fr (fM v T)) (sT (lS 7)) (.enu 51) 3 (sB (lS 7)) (hM3 c0 a1 a2 r i0 i1 i2 ⟨b0, b1, b2, true, b4, b5, b6, b7, b8, b9⟩ s0 s1 s2 s3 t) =
    some (.fl (fr (fM ⟨some (iA 3), some (iA 0), some (iA 4), some (.obj (rowIx ((r + 3) % 7))), some (iA (1001 * (3 + 1) + a1)), some (.bool true), some (tabK true ((r + 3) % 7) (1001 * (3 + 1) + a1)), some (.bool true)⟩ (addT true T 4096))) .next, hM4 c0 a1 a2 r i0 i1 i2 ⟨b0, b1, b2, true, b4, b5, b6, b7, b8, b9⟩ s0 s1 s2 s3 t) := by
  rcases r with _ | _ | _ | _ | _ | _ | _ | r
  all_goals first | (exfalso; omega; done) | kernel_rfl

theorem mt3_false (m r : Nat) (hr : r < 7) (b0 b1 b2 b4 b5 b6 b7 b8 b9 : Bool) (T : Int) (v : J8) : foTu (ev ns lawOrc (m + 60)) (fr (fM v T)) (sT (lS 7)) (.enu 51) 3 (sB (lS 7)) (hM3 c0 a1 a2 r i0 i1 i2 ⟨b0, b1, b2, false, b4, b5, b6, b7, b8, b9⟩ s0 s1 s2 s3 t) =
    some (.fl (fr (fM ⟨some (iA 3), some (iA 0), some (iA 4), some (.obj (rowIx ((r + 3) % 7))), some (iA (1001 * (3 + 1) + a1)), some (.bool false), some (tabK false ((r + 3) % 7) (1001 * (3 + 1) + a1)), some (.bool false)⟩ (addT false T 4096))) .next, hM4 c0 a1 a2 r i0 i1 i2 ⟨b0, b1, b2, false, b4, b5, b6, b7, b8, b9⟩ s0 s1 s2 s3 t) := by
  rcases r with _ | _ | _ | _ | _ | _ | _ | r
  all_goals first | (exfalso; omega; done) | kernel_rfl

theorem mt3 (m r : Nat) (hr : r < 7) (x : B10) (T : Int) (v : J8) : ∃ w : J8, ev ns lawOrc (m + 61) (.fo (fr (fM v T)) (sT (lS 7)) (.enu 51) 3 (sB (lS 7))) (hM3 c0 a1 a2 r i0 i1 i2 x s0 s1 s2 s3 t) =
    ev ns lawOrc (m + 60) (.fo (fr (fM w (addT x.b3 T 4096))) (sT (lS 7)) (.enu 51) 4 (sB (lS 7))) (hM4 c0 a1 a2 r i0 i1 i2 x s0 s1 s2 s3 t) := by
  obtain ⟨b0, b1, b2, b3, b4, b5, b6, b7, b8, b9⟩ := x
  cases b3 with
  | true => exact ⟨_, fo_go (mt3_true m r hr b0 b1 b2 b4 b5 b6 b7 b8 b9 T v)⟩
  | false => exact ⟨_, fo_go (mt3_false m r hr b0 b1 b2 b4 b5 b6 b7 b8 b9 T v)⟩

theorem mt4_true (m r : Nat) (hr : r < 7) (b0 b1 b2 b3 b5 b6 b7 b8 b9 : Bool) (T : Int) (v : J8) : foTu (ev ns lawOrc (m + 60)) (fr (fM v T)) (sT (lS 7)) (.enu 51) 4 (sB (lS 7)) (hM4 c0 a1 a2 r i0 i1 i2 ⟨b0, b1, b2, b3, true, b5, b6, b7, b8, b9⟩ s0 s1 s2 s3 t) =
    some (.fl (fr (fM ⟨some (iA 4), some (iA 1), some (iA 2), some (.obj (rowIx ((r + 4) % 7))), some (iA (1001 * (4 + 1) + a1)), some (.bool true), some (tabK true ((r + 4) % 7) (1001 * (4 + 1) + a1)), some (.bool true)⟩ (addT true T 65536))) .next, hM5 c0 a1 a2 r i0 i1 i2 ⟨b0, b1, b2, b3, true, b5, b6, b7, b8, b9⟩ s0 s1 s2 s3 t) := by
  rcases r with _ | _ | _ | _ | _ | _ | _ | r
  all_goals first | (exfalso; omega; done) | kernel_rfl

theorem mt4_false (m r : Nat) (hr : r < 7) (b0 b1 b2 b3 b5 b6 b7 b8 b9 : Bool) (T : Int) (v : J8) : foTu (ev ns lawOrc (m + 60)) (fr (fM v T)) (sT (lS 7)) (.enu 51) 4 (sB (lS 7)) (hM4 c0 a1 a2 r i0 i1 i2 ⟨b0, b1, b2, b3, false, b5, b6, b7, b8, b9⟩ s0 s1 s2 s3 t) =
    some (.fl (fr (fM ⟨some (iA 4), some (iA 1), some (iA 2), some (.obj (rowIx ((r + 4) % 7))), some (iA (1001 * (4 + 1) + a1)), some (.bool false), some (tabK false ((r + 4) % 7) (1001 * (4 + 1) + a1)), some (.bool false)⟩ (addT false T 65536))) .next, hM5 c0 a1 a2 r i0 i1 i2 ⟨b0, b1, b2, b3, false, b5, b6, b7, b8, b9⟩ s0 s1 s2 s3 t) := by
  rcases r with _ | _ | _ | _ | _ | _ | _ | r
  all_goals first | (exfalso; omega; done) | kernel_rfl

theorem mt4 (m r : Nat) (hr : r < 7) (x : B10) (T : Int) (v : J8) : ∃ w : J8, ev ns lawOrc (m + 61) (.fo (fr (fM v T)) (sT (lS 7)) (.enu 51) 4 (sB (lS 7))) (hM4 c0 a1 a2 r i0 i1 i2 x s0 s1 s2 s3 t) =
    ev ns lawOrc (m + 60) (.fo (fr (fM w (addT x.b4 T 65536))) (sT (lS 7)) (.enu 51) 5 (sB (lS 7))) (hM5 c0 a1 a2 r i0 i1 i2 x s0 s1 s2 s3 t) := by
  obtain ⟨b0, b1, b2, b3, b4, b5, b6, b7, b8, b9⟩ := x
  cases b4 with
  | true => exact ⟨_, fo_go (mt4_true m r hr b0 b1 b2 b3 b5 b6 b7 b8 b9 T v)⟩
  | false => exact ⟨_, fo_go (mt4_false m r hr b0 b1 b2 b3 b5 b6 b7 b8 b9 T v)⟩

theorem mt5_true (m r : Nat) (hr : r < 7) (b0 b1 b2 b3 b4 b6 b7 b8 b9 : Bool) (T : Int) (v : J8) : foTu (ev ns lawOrc (m + 60)) (fr (fM v T)) (sT (lS 7)) (.enu 51) 5 (sB (lS 7)) (hM5 c0 a1 a2 r i0 i1 i2 ⟨b0, b1, b2, b3, b4, true, b6, b7, b8, b9⟩ s0 s1 s2 s3 t) =
    some (.fl (fr (fM ⟨some (iA 5), some (iA 1), some (iA 3), some (.obj (rowIx ((r + 5) % 7))), some (iA (1001 * (5 + 1) + a1)), some (.bool true), some (tabK true ((r + 5) % 7) (1001 * (5 + 1) + a1)), some (.bool true)⟩ (addT true T 1048576))) .next, hM6 c0 a1 a2 r i0 i1 i2 ⟨b0, b1, b2, b3, b4, true, b6, b7, b8, b9⟩ s0 s1 s2 s3 t) := by
  rcases r with _ | _ | _ | _ | _ | _ | _ | r
  all_goals first | (exfalso; omega; done) | kernel_rfl

theorem mt5_false (m r : Nat) (hr : r < 7) (b0 b1 b2 b3 b4 b6 b7 b8 b9 : Bool) (T : Int) (v : J8) : foTu (ev ns lawOrc (m + 60)) (fr (fM v T)) (sT (lS 7)) (.enu 51) 5 (sB (lS 7)) (hM5 c0 a1 a2 r i0 i1 i2 ⟨b0, b1, b2, b3, b4, false, b6, b7, b8, b9⟩ s0 s1 s2 s3 t) =
    some (.fl (fr (fM ⟨some (iA 5), some (iA 1), some (iA 3), some (.obj (rowIx ((r + 5) % 7))), some (iA (1001 * (5 + 1) + a1)), some (.bool false), some (tabK false ((r + 5) % 7) (1001 * (5 + 1) + a1)), some (.bool false)⟩ (addT false T 1048576))) .next, hM6 c0 a1 a2 r i0 i1 i2 ⟨b0, b1, b2, b3, b4, false, b6, b7, b8, b9⟩ s0 s1 s2 s3 t) := by
  rcases r with _ | _ | _ | _ | _ | _ | _ | r
  all_goals first | (exfalso; omega; done) | kernel_rfl

theorem mt5 (m r : Nat) (hr : r < 7) (x : B10) (T : Int) (v : J8) : ∃ w : J8, ev ns lawOrc (m + 61) (.fo (fr (fM v T)) (sT (lS 7)) (.enu 51) 5 (sB (lS 7))) (hM5 c0 a1 a2 r i0 i1 i2 x s0 s1 s2 s3 t) =
    ev ns lawOrc (m + 60) (.fo (fr (fM w (addT x.b5 T 1048576))) (sT (lS 7)) (.enu 51) 6 (sB (lS 7))) (hM6 c0 a1 a2 r i0 i1 i2 x s0 s1 s2 s3 t) := by
  obtain ⟨b0, b1, b2, b3, b4, b5, b6, b7, b8, b9⟩ := x
  cases b5 with
  | true => exact ⟨_, fo_go (mt5_true m r hr b0 b1 b2 b3 b4 b6 b7 b8 b9 T v)⟩
  | false => exact ⟨_, fo_go (mt5_false m r hr b0 b1 b2 b3 b4 b6 b7 b8 b9 T v)⟩

theorem mt6_true (m r : Nat) (hr : r < 7) (b0 b1 b2 b3 b4 b5 b7 b8 b9 : Bool) (T : Int) (v : J8) : foTu (ev ns lawOrc (m + 60)) (fr (fM v T)) (sT (lS 7)) (.enu 51) 6 (sB (lS 7)) (hM6 c0 a1 a2 r i0 i1 i2 ⟨b0, b1, b2, b3, b4, b5, true, b7, b8, b9⟩ s0 s1 s2 s3 t) =
    some (.fl (fr (fM ⟨some (iA 6), some (iA 1), some (iA 4), some (.obj (rowIx ((r + 6) % 7))), some (iA (1001 * (6 + 1) + a1)), some (.bool true), some (tabK true ((r + 6) % 7) (1001 * (6 + 1) + a1)), some (.bool true)⟩ (addT true T 16777216))) .next, hM7 c0 a1 a2 r i0 i1 i2 ⟨b0, b1, b2, b3, b4, b5, true, b7, b8, b9⟩ s0 s1 s2 s3 t) := by
  rcases r with _ | _ | _ | _ | _ | _ | _ | r
  all_goals first | (exfalso; omega; done) | kernel_rfl

theorem mt6_false (m r : Nat) (hr : r < 7) (b0 b1 b2 b3 b4 b5 b7 b8 b9 : Bool) (T : Int) (v : J8) : foTu (ev ns lawOrc (m + 60)) (fr (fM v T)) (sT (lS 7)) (.enu 51) 6 (sB (lS 7)) (hM6 c0 a1 a2 r i0 i1 i2 ⟨b0, b1, b2, b3, b4, b5, false, b7, b8, b9⟩ s0 s1 s2 s3 t) =
    some (.fl (fr (fM ⟨some (iA 6), some (iA 1), some (iA 4), some (.obj (rowIx ((r + 6) % 7))), some (iA (1001 * (6 + 1) + a1)), some (.bool false), some (tabK false ((r + 6) % 7) (1001 * (6 + 1) + a1)), some (.bool false)⟩ (addT false T 16777216))) .next, hM7 c0 a1 a2 r i0 i1 i2 ⟨b0, b1, b2, b3, b4, b5, false, b7, b8, b9⟩ s0 s1 s2 s3 t) := by
  rcases r with _ | _ | _ | _ | _ | _ | _ | r
  all_goals first | (exfalso; omega; done) | kernel_rfl

theorem mt6 (m r : Nat) (hr : r < 7) (x : B10) (T : Int) (v : J8) : ∃ w : J8, ev ns lawOrc (m + 61) (.fo (fr (fM v T)) (sT (lS 7)) (.enu 51) 6 (sB (lS 7))) (hM6 c0 a1 a2 r i0 i1 i2 x s0 s1 s2 s3 t) =
    ev ns lawOrc (m + 60) (.fo (fr (fM w (addT x.b6 T 16777216))) (sT (lS 7)) (.enu 51) 7 (sB (lS 7))) (hM7 c0 a1 a2 r i0 i1 i2 x s0 s1 s2 s3 t) := by
  obtain ⟨b0, b1, b2, b3, b4, b5, b6, b7, b8, b9⟩ := x
  cases b6 with
  | true => exact ⟨_, fo_go (mt6_true m r hr b0 b1 b2 b3 b4 b5 b7 b8 b9 T v)⟩
  | false => exact ⟨_, fo_go (mt6_false m r hr b0 b1 b2 b3 b4 b5 b7 b8 b9 T v)⟩

theorem mt7_true (m r : Nat) (hr : r < 7) (b0 b1 b2 b3 b4 b5 b6 b8 b9 : Bool) (T : Int) (v : J8) : foTu (ev ns lawOrc (m + 60)) (fr (fM v T)) (sT (lS 7)) (.enu 51) 7 (sB (lS 7)) (hM7 c0 a1 a2 r i0 i1 i2 ⟨b0, b1, b2, b3, b4, b5, b6, true, b8, b9⟩ s0 s1 s2 s3 t) =
    some (.fl (fr (fM ⟨some (iA 7), some (iA 2), some (iA 3), some (.obj (rowIx ((r + 7) % 7))), some (iA (1001 * (7 + 1) + a1)), some (.bool true), some (tabK true ((r + 7) % 7) (1001 * (7 + 1) + a1)), some (.bool true)⟩ (addT true T 268435456))) .next, hM8 c0 a1 a2 r i0 i1 i2 ⟨b0, b1, b2, b3, b4, b5, b6, true, b8, b9⟩ s0 s1 s2 s3 t) := by
  rcases r with _ | _ | _ | _ | _ | _ | _ | r
  all_goals first | (exfalso; omega; done) | kernel_rfl

theorem mt7_false (m r : Nat) (hr : r < 7) (b0 b1 b2 b3 b4 b5 b6 b8 b9 : Bool) (T : Int) (v : J8) : foTu (ev ns lawOrc (m + 60)) (fr (fM v T)) (sT (lS 7)) (.enu 51) 7 (sB (lS 7)) (hM7 c0 a1 a2 r i0 i1 i2 ⟨b0, b1, b2, b3, b4, b5, b6, false, b8, b9⟩ s0 s1 s2 s3 t) =
    some (.fl (fr (fM ⟨some (iA 7), some (iA 2), some (iA 3), some (.obj (rowIx ((r + 7) % 7))), some (iA (1001 * (7 + 1) + a1)), some (.bool false), some (tabK false ((r + 7) % 7) (1001 * (7 + 1) + a1)), some (.bool false)⟩ (addT false T 268435456))) .next, hM8 c0 a1 a2 r i0 i1 i2 ⟨b0, b1, b2, b3, b4, b5, b6, false, b8, b9⟩ s0 s1 s2 s3 t) := by
  rcases r with _ | _ | _ | _ | _ | _ | _ | r
  all_goals first | (exfalso; omega; done) | kernel_rfl

theorem mt7 (m r : Nat) (hr : r < 7) (x : B10) (T : Int) (v : J8) : ∃ w : J8, ev ns lawOrc (m + 61) (.fo (fr (fM v T)) (sT (lS 7)) (.enu 51) 7 (sB (lS 7))) (hM7 c0 a1 a2 r i0 i1 i2 x s0 s1 s2 s3 t) =
    ev ns lawOrc (m + 60) (.fo (fr (fM w (addT x.b7 T 268435456))) (sT (lS 7)) (.enu 51) 8 (sB (lS 7))) (hM8 c0 a1 a2 r i0 i1 i2 x s0 s1 s2 s3 t) := by
  obtain ⟨b0, b1, b2, b3, b4, b5, b6, b7, b8, b9⟩ := x
  cases b7 with
  | true => exact ⟨_, fo_go (mt7_true m r hr b0 b1 b2 b3 b4 b5 b6 b8 b9 T v)⟩
  | false => exact ⟨_, fo_go (mt7_false m r hr b0 b1 b2 b3 b4 b5 b6 b8 b9 T v)⟩

theorem mt8_true (m r : Nat) (hr : r < 7) (b0 b1 b2 b3 b4 b5 b6 b7 b9 : Bool) (T : Int) (v : J8) : foTu (ev ns lawOrc (m + 60)) (fr (fM v T)) (sT (lS 7)) (.enu 51) 8 (sB (lS 7)) (hM8 c0 a1 a2 r i0 i1 i2 ⟨b0, b1, b2, b3, b4, b5, b6, b7, true, b9⟩ s0 s1 s2 s3 t) =
    some (.fl (fr (fM ⟨some (iA 8), some (iA 2), some (iA 4), some (.obj (rowIx ((r + 8) % 7))), some (iA (1001 * (8 + 1) + a1)), some (.bool true), some (tabK true ((r + 8) % 7) (1001 * (8 + 1) + a1)), some (.bool true)⟩ (addT true T 4294967296))) .next, hM9 c0 a1 a2 r i0 i1 i2 ⟨b0, b1, b2, b3, b4, b5, b6, b7, true, b9⟩ s0 s1 s2 s3 t) := by
  rcases r with _ | _ | _ | _ | _ | _ | _ | r
  all_goals first | (exfalso; omega; done) | kernel_rfl

theorem mt8_false (m r : Nat) (hr : r < 7) (b0 b1 b2 b3 b4 b5 b6 b7 b9 : Bool) (T : Int) (v : J8) : foTu (ev ns lawOrc (m + 60)) (fr (fM v T)) (sT (lS 7)) (.enu 51) 8 (sB (lS 7)) (hM8 c0 a1 a2 r i0 i1 i2 ⟨b0, b1, b2, b3, b4, b5, b6, b7, false, b9⟩ s0 s1 s2 s3 t) =
    some (.fl (fr (fM ⟨some (iA 8), some (iA 2), some (iA 4), some (.obj (rowIx ((r + 8) % 7))), some (iA (1001 * (8 + 1) + a1)), some (.bool false), some (tabK false ((r + 8) % 7) (1001 * (8 + 1) + a1)), some (.bool false)⟩ (addT false T 4294967296))) .next, hM9 c0 a1 a2 r i0 i1 i2 ⟨b0, b1, b2, b3, b4, b5, b6, b7, false, b9⟩ s0 s1 s2 s3 t) := by
  rcases r with _ | _ | _ | _ | _ | _ | _ | r
  all_goals first | (exfalso; omega; done) | kernel_rfl

theorem mt8 (m r : Nat) (hr : r < 7) (x : B10) (T : Int) (v : J8) : ∃ w : J8, ev ns lawOrc (m + 61) (.fo (fr (fM v T)) (sT (lS 7)) (.enu 51) 8 (sB (lS 7))) (hM8 c0 a1 a2 r i0 i1 i2 x s0 s1 s2 s3 t) =
    ev ns lawOrc (m + 60) (.fo (fr (fM w (addT x.b8 T 4294967296))) (sT (lS 7)) (.enu 51) 9 (sB (lS 7))) (hM9 c0 a1 a2 r i0 i1 i2 x s0 s1 s2 s3 t) := by
  obtain ⟨b0, b1, b2, b3, b4, b5, b6, b7, b8, b9⟩ := x
  cases b8 with
  | true => exact ⟨_, fo_go (mt8_true m r hr b0 b1 b2 b3 b4 b5 b6 b7 b9 T v)⟩
  | false => exact ⟨_, fo_go (mt8_false m r hr b0 b1 b2 b3 b4 b5 b6 b7 b9 T v)⟩

theorem mt9_true (m r : Nat) (hr : r < 7) (b0 b1 b2 b3 b4 b5 b6 b7 b8 : Bool) (T : Int) (v : J8) : foTu (ev ns lawOrc (m + 60)) (fr (fM v T)) (sT (lS 7)) (.enu 51) 9 (sB (lS 7)) (hM9 c0 a1 a2 r i0 i1 i2 ⟨b0, b1, b2, b3, b4, b5, b6, b7, b8, true⟩ s0 s1 s2 s3 t) =
    some (.fl (fr (fM ⟨some (iA 9), some (iA 3), some (iA 4), some (.obj (rowIx ((r + 9) % 7))), some (iA (1001 * (9 + 1) + a1)), some (.bool true), some (tabK true ((r + 9) % 7) (1001 * (9 + 1) + a1)), some (.bool true)⟩ (addT true T 68719476736))) .next, hM10 c0 a1 a2 r i0 i1 i2 ⟨b0, b1, b2, b3, b4, b5, b6, b7, b8, true⟩ s0 s1 s2 s3 t) := by
  rcases r with _ | _ | _ | _ | _ | _ | _ | r
  all_goals first | (exfalso; omega; done) | kernel_rfl

theorem mt9_false (m r : Nat) (hr : r < 7) (b0 b1 b2 b3 b4 b5 b6 b7 b8 : Bool) (T : Int) (v : J8) : foTu (ev ns lawOrc (m + 60)) (fr (fM v T)) (sT (lS 7)) (.enu 51) 9 (sB (lS 7)) (hM9 c0 a1 a2 r i0 i1 i2 ⟨b0, b1, b2, b3, b4, b5, b6, b7, b8, false⟩ s0 s1 s2 s3 t) =
    some (.fl (fr (fM ⟨some (iA 9), some (iA 3), some (iA 4), some (.obj (rowIx ((r + 9) % 7))), some (iA (1001 * (9 + 1) + a1)), some (.bool false), some (tabK false ((r + 9) % 7) (1001 * (9 + 1) + a1)), some (.bool false)⟩ (addT false T 68719476736))) .next, hM10 c0 a1 a2 r i0 i1 i2 ⟨b0, b1, b2, b3, b4, b5, b6, b7, b8, false⟩ s0 s1 s2 s3 t) := by
  rcases r with _ | _ | _ | _ | _ | _ | _ | r
  all_goals first | (exfalso; omega; done) | kernel_rfl

theorem mt9 (m r : Nat) (hr : r < 7) (x : B10) (T : Int) (v : J8) : ∃ w : J8, ev ns lawOrc (m + 61) (.fo (fr (fM v T)) (sT (lS 7)) (.enu 51) 9 (sB (lS 7))) (hM9 c0 a1 a2 r i0 i1 i2 x s0 s1 s2 s3 t) =
    ev ns lawOrc (m + 60) (.fo (fr (fM w (addT x.b9 T 68719476736))) (sT (lS 7)) (.enu 51) 10 (sB (lS 7))) (hM10 c0 a1 a2 r i0 i1 i2 x s0 s1 s2 s3 t) := by
  obtain ⟨b0, b1, b2, b3, b4, b5, b6, b7, b8, b9⟩ := x
  cases b9 with
  | true => exact ⟨_, fo_go (mt9_true m r hr b0 b1 b2 b3 b4 b5 b6 b7 b8 T v)⟩
  | false => exact ⟨_, fo_go (mt9_false m r hr b0 b1 b2 b3 b4 b5 b6 b7 b8 T v)⟩

end
end Mine
set_option maxRecDepth 100000
open PySem PySem.W PyProof.Rows
namespace Mine
theorem ss_app' {ns : List Int} {orc : Orc} {f f' : AF} {σ σ' : H} (a b : List Stmt) (k K : Nat) (hK : K = k + 1 + a.length) (h : ev ns orc K (.ss f a) σ = some (.fl f' .next, σ')) : ev ns orc K (.ss f (a ++ b)) σ = ev ns orc (k + 1) (.ss f' b) σ' := by
  subst hK; exact ss_app a b k f σ h
noncomputable def sb (t : Nat) (a : Int) : Bool := Int.fmod (halfs t (Int.fmod (Int.fdiv a 4) 64)) 2 == 1
noncomputable def startB (a : Int) : B10 :=
  ⟨sb 0 a, sb 1 a, sb 2 a, Int.fmod (sumFrom 0 [0, bI (sb 0 a), bI (sb 1 a), bI (sb 2 a)]) 2 == 1, sb 3 a, sb 4 a, Int.fmod (sumFrom 0 [bI (sb 0 a), 0, bI (sb 3 a), bI (sb 4 a)]) 2 == 1, sb 5 a, Int.fmod (sumFrom 0 [bI (sb 1 a), bI (sb 3 a), 0, bI (sb 5 a)]) 2 == 1, Int.fmod (sumFrom 0 [bI (sb 2 a), bI (sb 4 a), bI (sb 5 a), 0]) 2 == 1⟩
noncomputable def namedI (a : Int) : Int := Int.fmod (Int.fdiv a 256) 1024
noncomputable def turnI (m : Nat) (a : Int) : Int := match m with
  | 0 => 0
  | 1 => 2 ^ (Int.fmod (namedI a) 10).toNat
  | _ => namedI a
noncomputable def turnK (m : Nat) : Kn := match m with
  | 0 => .any
  | 1 => .any
  | _ => .lt 1024
/-- the ten pairs, each turned if its figure says so -/
noncomputable def bits (m : Nat) (a : Int) : B10 := ⟨bx (Int.fmod (Int.fdiv (turnI m a) (2 ^ 0)) 2 == 1) (startB a).b0, bx (Int.fmod (Int.fdiv (turnI m a) (2 ^ 1)) 2 == 1) (startB a).b1, bx (Int.fmod (Int.fdiv (turnI m a) (2 ^ 2)) 2 == 1) (startB a).b2, bx (Int.fmod (Int.fdiv (turnI m a) (2 ^ 3)) 2 == 1) (startB a).b3, bx (Int.fmod (Int.fdiv (turnI m a) (2 ^ 4)) 2 == 1) (startB a).b4,
  bx (Int.fmod (Int.fdiv (turnI m a) (2 ^ 5)) 2 == 1) (startB a).b5, bx (Int.fmod (Int.fdiv (turnI m a) (2 ^ 6)) 2 == 1) (startB a).b6, bx (Int.fmod (Int.fdiv (turnI m a) (2 ^ 7)) 2 == 1) (startB a).b7, bx (Int.fmod (Int.fdiv (turnI m a) (2 ^ 8)) 2 == 1) (startB a).b8, bx (Int.fmod (Int.fdiv (turnI m a) (2 ^ 9)) 2 == 1) (startB a).b9⟩
noncomputable def sl4 (x : B10) (j : Nat) : List AV := (rowN x j).take 4
section
variable {ns : List Int} {a : Int} {c1 c2 : AV} {i0 i1 i2 : List Int}
theorem seen_start {m : Nat} (hm : m < 4) : ev ns lawOrc 137 (.ss (fS (.int a (.res 4 m)) none none none none none none none) [eS 0, eS 1, eS 2, eS 3, eS 4, eS 5]) (hP (.int a (.res 4 m)) c1 c2 i0 i1 i2) =
    some (.fl (fS (.int a (.res 4 m)) (some (.obj 62)) (some (iA (halfs 6 (Int.fmod (Int.fdiv a 4) 64)))) (some (iA 3)) (some (iA 4)) (some (.int (namedI a) (.lt 1024))) (some (.int (turnI m a) (turnK m))) none) .next,
      hP (.int a (.res 4 m)) c1 c2 i0 i1 i2 ++ hSeen (startB a) (sl4 (startB a) 0) (sl4 (startB a) 1) (sl4 (startB a) 2) (sl4 (startB a) 3) [iA 0, iA (2 ^ (Int.fmod (namedI a) 10).toNat), .int (namedI a) (.lt 1024), .int (namedI a) (.lt 1024)]) := by
  rcases m with _ | _ | _ | _ | m
  all_goals first | (exfalso; omega; done) | kernel_rfl
theorem seen_loop {c0 : AV} {x : B10} {s0 s1 s2 s3 t : List AV} (si nm : Option AV) (T : Int) (kn : Kn) (a b c : Option AV) : ∃ f', ev ns lawOrc 129 (.fo (fS c0 (some (.obj 62)) si a b nm (some (.int T kn)) c) (sT (eS 6)) (.enu 51) 0 (sB (eS 6))) (hP c0 c1 c2 i0 i1 i2 ++ hSeen x s0 s1 s2 s3 t) =
    some (.fl (fS c0 (some (.obj 62)) si (some (iA 3)) (some (iA 4)) nm (some (.int T kn)) f') .next, hP c0 c1 c2 i0 i1 i2 ++ hSeen ⟨bx (Int.fmod (Int.fdiv T (2 ^ 0)) 2 == 1) x.b0, bx (Int.fmod (Int.fdiv T (2 ^ 1)) 2 == 1) x.b1, bx (Int.fmod (Int.fdiv T (2 ^ 2)) 2 == 1) x.b2, bx (Int.fmod (Int.fdiv T (2 ^ 3)) 2 == 1) x.b3, bx (Int.fmod (Int.fdiv T (2 ^ 4)) 2 == 1) x.b4,
  bx (Int.fmod (Int.fdiv T (2 ^ 5)) 2 == 1) x.b5, bx (Int.fmod (Int.fdiv T (2 ^ 6)) 2 == 1) x.b6, bx (Int.fmod (Int.fdiv T (2 ^ 7)) 2 == 1) x.b7, bx (Int.fmod (Int.fdiv T (2 ^ 8)) 2 == 1) x.b8, bx (Int.fmod (Int.fdiv T (2 ^ 9)) 2 == 1) x.b9⟩ s0 s1 s2 s3 t) := by
  refine ⟨some (iA 9), ?_⟩
  refine (sturn0 88 _ si nm T kn a b c rfl).trans ?_
  refine (sturn1 87 _ si nm T kn _ _ _ rfl).trans ?_
  refine (sturn2 86 _ si nm T kn _ _ _ rfl).trans ?_
  refine (sturn3 85 _ si nm T kn _ _ _ rfl).trans ?_
  refine (sturn4 84 _ si nm T kn _ _ _ rfl).trans ?_
  refine (sturn5 83 _ si nm T kn _ _ _ rfl).trans ?_
  refine (sturn6 82 _ si nm T kn _ _ _ rfl).trans ?_
  refine (sturn7 81 _ si nm T kn _ _ _ rfl).trans ?_
  refine (sturn8 80 _ si nm T kn _ _ _ rfl).trans ?_
  refine (sturn9 79 _ si nm T kn _ _ _ rfl).trans ?_
  exact fo_end (k := 118) (by kernel_rfl)
theorem seen_ev {m : Nat} (hm : m < 4) : ev ns lawOrc 138 (.ca 18 [.obj 51, .int a (.res 4 m)]) (hP (.int a (.res 4 m)) c1 c2 i0 i1 i2) =
    some (.v (.obj 62), hP (.int a (.res 4 m)) c1 c2 i0 i1 i2 ++ hSeen (bits m a) (sl4 (startB a) 0) (sl4 (startB a) 1) (sl4 (startB a) 2) (sl4 (startB a) 3) [iA 0, iA (2 ^ (Int.fmod (namedI a) 10).toNat), .int (namedI a) (.lt 1024), .int (namedI a) (.lt 1024)]) := by
  obtain ⟨f', hl⟩ := seen_loop (ns := ns) (c1 := c1) (c2 := c2) (i0 := i0) (i1 := i1) (i2 := i2) (c0 := .int a (.res 4 m)) (x := startB a) (s0 := sl4 (startB a) 0) (s1 := sl4 (startB a) 1) (s2 := sl4 (startB a) 2) (s3 := sl4 (startB a) 3) (t := [iA 0, iA (2 ^ (Int.fmod (namedI a) 10).toNat), .int (namedI a) (.lt 1024), .int (namedI a) (.lt 1024)])
    (some (iA (halfs 6 (Int.fmod (Int.fdiv a 4) 64)))) (some (.int (namedI a) (.lt 1024))) (turnI m a) (turnK m) (some (iA 3)) (some (iA 4)) none
  let f0 := fS (.int a (.res 4 m)) none none none none none none none
  have hb : (fnD 18).body = [eS 0, eS 1, eS 2, eS 3, eS 4, eS 5] ++ [.For (sT (eS 6)) (sX (eS 6)) (sB (eS 6)) [] (sP (eS 6)), eS 7] := by kernel_rfl
  refine ca_ret (k := 137) (f := f0) (fn := fnD 18) (by kernel_rfl) (by kernel_rfl) (by kernel_rfl) (by kernel_rfl) (f' := fS (.int a (.res 4 m)) (some (.obj 62)) (some (iA (halfs 6 (Int.fmod (Int.fdiv a 4) 64)))) (some (iA 3)) (some (iA 4)) (some (.int (namedI a) (.lt 1024))) (some (.int (turnI m a) (turnK m))) f') ?_
  rw [hb]
  rw [ss_app' _ _ 130 137 (by kernel_rfl) (seen_start hm)]
  rw [show 130 + 1 = 131 from rfl]
  refine (ss_cons (k := 130) ((s_for (k := 129) (s := .enu 51) (by kernel_rfl)).trans hl)).trans ?_
  kernel_rfl
theorem applyV_fn {orc : Orc} {ih : EvT} {i : Nat} {args : List AV} {σ : H} (hi : Nat.blt i 23 = true) (h : orc i args σ = none) : applyV orc ih (.fn i) args σ = ih (.ca i args) σ := by
  show (match Nat.blt i 23 with
    | true => match orc i args σ with
      | some (v, σ') => some (Res.v v, σ')
      | none => ih (.ca i args) σ
    | false => none) = _
  rw [hi, h]
/-- statements 4, 5, 6: seen, alone, ties -/
theorem seg4 {m : Nat} (hm : m < 4) (b : List Stmt) {c2 : Int} {c1 : Int} {r : Nat} : ev ns lawOrc 141 (.ss (fr { seen := none, alone := none }) ([lS 4, lS 5, lS 6] ++ b)) (hP (.int a (.res 4 m)) (iA c1) (.int c2 (.res 7 r)) i0 i1 i2) =
    ev ns lawOrc 138 (.ss (fr { ties := some (iA 0) }) b) (hM0 (.int a (.res 4 m)) c1 c2 r i0 i1 i2 (bits m a) (sl4 (startB a) 0) (sl4 (startB a) 1) (sl4 (startB a) 2) (sl4 (startB a) 3) [iA 0, iA (2 ^ (Int.fmod (namedI a) 10).toNat), .int (namedI a) (.lt 1024), .int (namedI a) (.lt 1024)]) := by
  refine ss_app' _ b 137 141 (by kernel_rfl) ?_
  have hc : ev ns lawOrc 139 (.e (fr { seen := none, alone := none }) (sX (lS 4))) (hP (.int a (.res 4 m)) (iA c1) (.int c2 (.res 7 r)) i0 i1 i2) = some (.v (.obj 62), hP (.int a (.res 4 m)) (iA c1) (.int c2 (.res 7 r)) i0 i1 i2 ++ hSeen (bits m a) (sl4 (startB a) 0) (sl4 (startB a) 1) (sl4 (startB a) 2) (sl4 (startB a) 3) [iA 0, iA (2 ^ (Int.fmod (namedI a) 10).toNat), .int (namedI a) (.lt 1024), .int (namedI a) (.lt 1024)]) := by
    rw [show sX (lS 4) = .Call (.Name (nmI (eL (sX (lS 4)))) (tP (eL (sX (lS 4))))) (eAs (sX (lS 4))) [] (eP (sX (lS 4))) by kernel_rfl]
    refine e_call (k := 138) (a := .fn 18) (vs := [.obj 51, .int a (.res 4 m)]) (σ1 := hP (.int a (.res 4 m)) (iA c1) (.int c2 (.res 7 r)) i0 i1 i2) (σ2 := hP (.int a (.res 4 m)) (iA c1) (.int c2 (.res 7 r)) i0 i1 i2) (by kernel_rfl) (by kernel_rfl) ?_
    rw [applyV_fn (by kernel_rfl) (by kernel_rfl)]
    exact seen_ev hm
  have h4 : ev ns lawOrc 140 (.s (fr { seen := none, alone := none }) (lS 4)) (hP (.int a (.res 4 m)) (iA c1) (.int c2 (.res 7 r)) i0 i1 i2) = some (.fl (fr { alone := none }) .next, hP (.int a (.res 4 m)) (iA c1) (.int c2 (.res 7 r)) i0 i1 i2 ++ hSeen (bits m a) (sl4 (startB a) 0) (sl4 (startB a) 1) (sl4 (startB a) 2) (sl4 (startB a) 3) [iA 0, iA (2 ^ (Int.fmod (namedI a) 10).toNat), .int (namedI a) (.lt 1024), .int (namedI a) (.lt 1024)]) := by
    rw [show lS 4 = .Assign [sT (lS 4)] (sX (lS 4)) (sP (lS 4)) by kernel_rfl]
    exact s_asg (k := 139) (by kernel_rfl) (by kernel_rfl) hc (by kernel_rfl)
  refine (ss_cons (k := 140) h4).trans ?_
  kernel_rfl
/-- the main loop -/
noncomputable def tiesOf (x : B10) : Int := addT x.b9 (addT x.b8 (addT x.b7 (addT x.b6 (addT x.b5 (addT x.b4 (addT x.b3 (addT x.b2 (addT x.b1 (addT x.b0 0 1) 16) 256) 4096) 65536) 1048576) 16777216) 268435456) 4294967296) 68719476736
theorem seg7 {r : Nat} (hr : r < 7) (x : B10) (c0 : AV) (a1 a2 : Int) (s0 s1 s2 s3 t : List AV) (b : List Stmt) : ∃ w : J8, ev ns lawOrc 138 (.ss (fr { ties := some (iA 0) }) (lS 7 :: b)) (hM0 c0 a1 a2 r i0 i1 i2 x s0 s1 s2 s3 t) =
    ev ns lawOrc 137 (.ss (fr (fM w (tiesOf x))) b) (hM10 c0 a1 a2 r i0 i1 i2 x s0 s1 s2 s3 t) := by
  obtain ⟨p, e0⟩ := mt0 (ns := ns) (c0 := c0) (a1 := a1) (a2 := a2) (i0 := i0) (i1 := i1) (i2 := i2) (s0 := s0) (s1 := s1) (s2 := s2) (s3 := s3) (t := t) 75 r hr x 0 ⟨none, none, none, none, none, none, none, none⟩
  obtain ⟨T0, hT0⟩ : ∃ T, addT x.b0 0 1 = T := ⟨_, rfl⟩
  rw [hT0] at e0
  obtain ⟨q, e1⟩ := mt1 (ns := ns) (c0 := c0) (a1 := a1) (a2 := a2) (i0 := i0) (i1 := i1) (i2 := i2) (s0 := s0) (s1 := s1) (s2 := s2) (s3 := s3) (t := t) 74 r hr x T0 p
  obtain ⟨T1, hT1⟩ : ∃ T, addT x.b1 T0 16 = T := ⟨_, rfl⟩
  rw [hT1] at e1
  obtain ⟨p, e2⟩ := mt2 (ns := ns) (c0 := c0) (a1 := a1) (a2 := a2) (i0 := i0) (i1 := i1) (i2 := i2) (s0 := s0) (s1 := s1) (s2 := s2) (s3 := s3) (t := t) 73 r hr x T1 q
  obtain ⟨T2, hT2⟩ : ∃ T, addT x.b2 T1 256 = T := ⟨_, rfl⟩
  rw [hT2] at e2
  obtain ⟨q, e3⟩ := mt3 (ns := ns) (c0 := c0) (a1 := a1) (a2 := a2) (i0 := i0) (i1 := i1) (i2 := i2) (s0 := s0) (s1 := s1) (s2 := s2) (s3 := s3) (t := t) 72 r hr x T2 p
  obtain ⟨T3, hT3⟩ : ∃ T, addT x.b3 T2 4096 = T := ⟨_, rfl⟩
  rw [hT3] at e3
  obtain ⟨p, e4⟩ := mt4 (ns := ns) (c0 := c0) (a1 := a1) (a2 := a2) (i0 := i0) (i1 := i1) (i2 := i2) (s0 := s0) (s1 := s1) (s2 := s2) (s3 := s3) (t := t) 71 r hr x T3 q
  obtain ⟨T4, hT4⟩ : ∃ T, addT x.b4 T3 65536 = T := ⟨_, rfl⟩
  rw [hT4] at e4
  obtain ⟨q, e5⟩ := mt5 (ns := ns) (c0 := c0) (a1 := a1) (a2 := a2) (i0 := i0) (i1 := i1) (i2 := i2) (s0 := s0) (s1 := s1) (s2 := s2) (s3 := s3) (t := t) 70 r hr x T4 p
  obtain ⟨T5, hT5⟩ : ∃ T, addT x.b5 T4 1048576 = T := ⟨_, rfl⟩
  rw [hT5] at e5
  obtain ⟨p, e6⟩ := mt6 (ns := ns) (c0 := c0) (a1 := a1) (a2 := a2) (i0 := i0) (i1 := i1) (i2 := i2) (s0 := s0) (s1 := s1) (s2 := s2) (s3 := s3) (t := t) 69 r hr x T5 q
  obtain ⟨T6, hT6⟩ : ∃ T, addT x.b6 T5 16777216 = T := ⟨_, rfl⟩
  rw [hT6] at e6
  obtain ⟨q, e7⟩ := mt7 (ns := ns) (c0 := c0) (a1 := a1) (a2 := a2) (i0 := i0) (i1 := i1) (i2 := i2) (s0 := s0) (s1 := s1) (s2 := s2) (s3 := s3) (t := t) 68 r hr x T6 p
  obtain ⟨T7, hT7⟩ : ∃ T, addT x.b7 T6 268435456 = T := ⟨_, rfl⟩
  rw [hT7] at e7
  obtain ⟨p, e8⟩ := mt8 (ns := ns) (c0 := c0) (a1 := a1) (a2 := a2) (i0 := i0) (i1 := i1) (i2 := i2) (s0 := s0) (s1 := s1) (s2 := s2) (s3 := s3) (t := t) 67 r hr x T7 q
  obtain ⟨T8, hT8⟩ : ∃ T, addT x.b8 T7 4294967296 = T := ⟨_, rfl⟩
  rw [hT8] at e8
  obtain ⟨q, e9⟩ := mt9 (ns := ns) (c0 := c0) (a1 := a1) (a2 := a2) (i0 := i0) (i1 := i1) (i2 := i2) (s0 := s0) (s1 := s1) (s2 := s2) (s3 := s3) (t := t) 66 r hr x T8 p
  obtain ⟨T9, hT9⟩ : ∃ T, addT x.b9 T8 68719476736 = T := ⟨_, rfl⟩
  rw [hT9] at e9
  have hTT : tiesOf x = T9 := by
    unfold tiesOf
    rw [hT0, hT1, hT2, hT3, hT4, hT5, hT6, hT7, hT8, hT9]
  rw [hTT]
  refine ⟨q, ?_⟩
  rw [show lS 7 = .For (sT (lS 7)) (sX (lS 7)) (sB (lS 7)) [] (sP (lS 7)) by kernel_rfl]
  have hend : ev ns lawOrc 136 (.fo (fr { ties := some (iA 0) }) (sT (lS 7)) (.enu 51) 0 (sB (lS 7))) (hM0 c0 a1 a2 r i0 i1 i2 x s0 s1 s2 s3 t) = some (.fl (fr (fM q T9)) .next, hM10 c0 a1 a2 r i0 i1 i2 x s0 s1 s2 s3 t) := by
    refine e0.trans (e1.trans (e2.trans (e3.trans (e4.trans (e5.trans (e6.trans (e7.trans (e8.trans (e9.trans ?_)))))))))
    exact fo_end (k := 125) (by kernel_rfl)
  exact ss_cons (k := 137) ((s_for (k := 136) (s := .enu 51) (by kernel_rfl)).trans hend)
end
end Mine
set_option maxRecDepth 100000
open PySem PySem.W PyProof.Rows
namespace Mine

noncomputable def hWorth : H := [.list [.obj 96, .obj 98, .obj 100, .obj 102, .obj 104], .list [iA 0], .list [iA 0, iA 1, iA 16, iA 256, iA 4096], .list [iA 0], .list [iA 1, iA 0, iA 65536, iA 1048576, iA 16777216], .list [iA 0], .list [iA 16, iA 65536, iA 0, iA 268435456, iA 4294967296], .list [iA 0], .list [iA 256, iA 1048576, iA 268435456, iA 0, iA 68719476736], .list [iA 0], .list [iA 4096, iA 16777216, iA 4294967296, iA 68719476736, iA 0]]

noncomputable def hRings : H := [.list [.obj 114, .obj 112, .obj 118, .obj 116, .obj 110, .obj 124, .obj 122, .obj 128, .obj 126, .obj 120, .obj 134, .obj 132, .obj 138, .obj 136, .obj 130, .obj 146, .obj 144, .obj 150, .obj 148, .obj 156, .obj 158, .obj 152, .obj 166, .obj 168, .obj 162, .obj 178, .obj 180, .obj 188, .obj 190, .obj 194, .obj 241, .obj 239, .obj 245, .obj 243, .obj 251, .obj 253, .obj 270], .list [iA 0], .list [iA 1], .list [iA 0, iA 1], .list [iA 2], .list [iA 0, iA 1, iA 2], .list [iA 3], .list [iA 0, iA 1, iA 2, iA 3], .list [iA 4], .list [iA 0, iA 1, iA 2, iA 3, iA 4], .list [iA 4], .list [iA 0, iA 1, iA 2, iA 4], .list [iA 3], .list [iA 0, iA 1, iA 2, iA 4, iA 3], .list [iA 3], .list [iA 0, iA 1, iA 3], .list [iA 2], .list [iA 0, iA 1, iA 3, iA 2], .list [iA 4], .list [iA 0, iA 1, iA 3, iA 2, iA 4], .list [iA 4], .list [iA 0, iA 1, iA 3, iA 4], .list [iA 2], .list [iA 0, iA 1, iA 3, iA 4, iA 2], .list [iA 4], .list [iA 0, iA 1, iA 4], .list [iA 2], .list [iA 0, iA 1, iA 4, iA 2], .list [iA 3], .list [iA 0, iA 1, iA 4, iA 2, iA 3], .list [iA 3], .list [iA 0, iA 1, iA 4, iA 3], .list [iA 2], .list [iA 0, iA 1, iA 4, iA 3, iA 2], .list [iA 2], .list [iA 0, iA 2], .list [iA 1], .list [iA 0, iA 2, iA 1], .list [iA 3], .list [iA 0, iA 2, iA 1, iA 3], .list [iA 4], .list [iA 0, iA 2, iA 1, iA 3, iA 4], .list [iA 4], .list [iA 0, iA 2, iA 1, iA 4], .list [iA 3], .list [iA 0, iA 2, iA 1, iA 4, iA 3], .list [iA 3], .list [iA 0, iA 2, iA 3], .list [iA 1], .list [iA 0, iA 2, iA 3, iA 1], .list [iA 4], .list [iA 0, iA 2, iA 3, iA 1, iA 4], .list [iA 4], .list [iA 0, iA 2, iA 3, iA 4], .list [iA 1], .list [iA 0, iA 2, iA 3, iA 4, iA 1], .list [iA 4], .list [iA 0, iA 2, iA 4], .list [iA 1], .list [iA 0, iA 2, iA 4, iA 1], .list [iA 3], .list [iA 0, iA 2, iA 4, iA 1, iA 3], .list [iA 3], .list [iA 0, iA 2, iA 4, iA 3], .list [iA 1], .list [iA 0, iA 2, iA 4, iA 3, iA 1], .list [iA 3], .list [iA 0, iA 3], .list [iA 1], .list [iA 0, iA 3, iA 1], .list [iA 2], .list [iA 0, iA 3, iA 1, iA 2], .list [iA 4], .list [iA 0, iA 3, iA 1, iA 2, iA 4], .list [iA 4], .list [iA 0, iA 3, iA 1, iA 4], .list [iA 2], .list [iA 0, iA 3, iA 1, iA 4, iA 2], .list [iA 2], .list [iA 0, iA 3, iA 2], .list [iA 1], .list [iA 0, iA 3, iA 2, iA 1], .list [iA 4], .list [iA 0, iA 3, iA 2, iA 1, iA 4], .list [iA 4], .list [iA 0, iA 3, iA 2, iA 4], .list [iA 1], .list [iA 0, iA 3, iA 2, iA 4, iA 1], .list [iA 4], .list [iA 0, iA 3, iA 4], .list [iA 1], .list [iA 0, iA 3, iA 4, iA 1], .list [iA 2], .list [iA 0, iA 3, iA 4, iA 1, iA 2], .list [iA 2], .list [iA 0, iA 3, iA 4, iA 2], .list [iA 1], .list [iA 0, iA 3, iA 4, iA 2, iA 1], .list [iA 4], .list [iA 0, iA 4], .list [iA 1], .list [iA 0, iA 4, iA 1], .list [iA 2], .list [iA 0, iA 4, iA 1, iA 2], .list [iA 3], .list [iA 0, iA 4, iA 1, iA 2, iA 3], .list [iA 3], .list [iA 0, iA 4, iA 1, iA 3], .list [iA 2], .list [iA 0, iA 4, iA 1, iA 3, iA 2], .list [iA 2], .list [iA 0, iA 4, iA 2], .list [iA 1], .list [iA 0, iA 4, iA 2, iA 1], .list [iA 3], .list [iA 0, iA 4, iA 2, iA 1, iA 3], .list [iA 3], .list [iA 0, iA 4, iA 2, iA 3], .list [iA 1], .list [iA 0, iA 4, iA 2, iA 3, iA 1], .list [iA 3], .list [iA 0, iA 4, iA 3], .list [iA 1], .list [iA 0, iA 4, iA 3, iA 1], .list [iA 2], .list [iA 0, iA 4, iA 3, iA 1, iA 2], .list [iA 2], .list [iA 0, iA 4, iA 3, iA 2], .list [iA 1], .list [iA 0, iA 4, iA 3, iA 2, iA 1], .list [iA 1], .list [iA 2], .list [iA 1, iA 2], .list [iA 3], .list [iA 1, iA 2, iA 3], .list [iA 4], .list [iA 1, iA 2, iA 3, iA 4], .list [iA 4], .list [iA 1, iA 2, iA 4], .list [iA 3], .list [iA 1, iA 2, iA 4, iA 3], .list [iA 3], .list [iA 1, iA 3], .list [iA 2], .list [iA 1, iA 3, iA 2], .list [iA 4], .list [iA 1, iA 3, iA 2, iA 4], .list [iA 4], .list [iA 1, iA 3, iA 4], .list [iA 2], .list [iA 1, iA 3, iA 4, iA 2], .list [iA 4], .list [iA 1, iA 4], .list [iA 2], .list [iA 1, iA 4, iA 2], .list [iA 3], .list [iA 1, iA 4, iA 2, iA 3], .list [iA 3], .list [iA 1, iA 4, iA 3], .list [iA 2], .list [iA 1, iA 4, iA 3, iA 2], .list [iA 2], .list [iA 3], .list [iA 2, iA 3], .list [iA 4], .list [iA 2, iA 3, iA 4], .list [iA 4], .list [iA 2, iA 4], .list [iA 3], .list [iA 2, iA 4, iA 3], .list [iA 3], .list [iA 4], .list [iA 3, iA 4], .list [iA 4]]

/-- the rings: object, length, number -/
noncomputable def ringsL : List (Nat × Nat × Int) := [(114, 5, 68987981825), (112, 4, 268501249), (118, 5, 73014509825), (116, 4, 4295036929), (110, 3, 65553), (124, 5, 4564455425), (122, 4, 269484049), (128, 5, 73015492625), (126, 4, 68720529409), (120, 3, 1048833), (134, 5, 4580180225), (132, 4, 4311744529), (138, 5, 69004689425), (136, 4, 68736254209), (130, 3, 16781313), (146, 5, 68720594960), (144, 4, 1114384), (150, 5, 68736319760), (148, 4, 16846864), (156, 5, 286265360), (158, 4, 68987916304), (152, 3, 268435728), (166, 5, 4312793360), (168, 4, 73014444304), (162, 3, 4294971408), (178, 5, 4296085760), (180, 4, 17830144), (188, 5, 285282560), (190, 4, 4563407104), (194, 3, 68719481088), (241, 4, 69004754944), (239, 3, 269549568), (245, 4, 73015558144), (243, 3, 4311810048), (251, 4, 4581228544), (253, 3, 68737302528), (270, 3, 73282879488)]

noncomputable def ringAt (q : Nat) : Nat × Nat × Int := match ringsL[q]? with
  | some p => p
  | none => (0, 0, 0)
noncomputable def aloneI : List Int := [1, 16, 256, 4096, 65536, 1048576, 16777216, 268435456, 4294967296, 68719476736]
theorem inv_add (i : Int) : (!(i + (-i - 1) == -1)) = false := by
  have : i + (-i - 1) = -1 := by omega
  rw [this]; rfl
theorem and_neg1 (i : Int) : Builtin.bitAnd (-1) i = i := by
  unfold Builtin.bitAnd
  rw [show decide (0 ≤ (-1 : Int)) = false by decide]
  cases h : decide (0 ≤ i) with
  | true =>
    have := of_decide_eq_true h
    simp only
    show i - ((i.toNat &&& (0 : Nat) : Nat) : Int) = i
    rw [Nat.and_zero]; simp
  | false =>
    have := of_decide_eq_false h
    simp only
    show Builtin.bitNot (((0 : Nat) ||| (Builtin.bitNot i).toNat : Nat) : Int) = i
    rw [Nat.zero_or]
    have e : ∀ y : Int, Builtin.bitNot y = -y - 1 := fun y => by unfold Builtin.bitNot; omega
    rw [e, e]
    omega
section
variable {ns : List Int} {c0 : AV} {a1 a2 T : Int} {r : Nat} {i0 i1 i2 : List Int} {x : B10} {s0 s1 s2 s3 t : List AV} {v1 v2 v3 v4 v5 v6 v7 v8 : Option AV}
noncomputable abbrev aloneA : List AV := [iA 1, iA 16, iA 256, iA 4096, iA 65536, iA 1048576, iA 16777216, iA 268435456, iA 4294967296, iA 68719476736]
noncomputable def frJ (v1 v2 v3 v4 v5 v6 v7 v8 : Option AV) (T : Int) : LV := { at_ := v1, one := v2, other := v3, ties := some (iA T), row := v4, figure := v5, due := v6, code := v7, answer := v8 }
noncomputable def h8 (c0 : AV) (a1 a2 : Int) (r : Nat) (i0 i1 i2 : List Int) (x : B10) (s0 s1 s2 s3 t : List AV) : H := hM10 c0 a1 a2 r i0 i1 i2 x s0 s1 s2 s3 t ++ [.list aloneA]
theorem seg8 : ev ns lawOrc 136 (.s (fr (frJ v1 v2 v3 v4 v5 v6 v7 v8 T)) (lS 8)) (hM10 c0 a1 a2 r i0 i1 i2 x s0 s1 s2 s3 t) = some (.fl (fr (frJ v1 v2 v3 v4 v5 v6 v7 v8 T)) .next, h8 c0 a1 a2 r i0 i1 i2 x s0 s1 s2 s3 t) := by kernel_rfl
noncomputable def nLC : Expr := eL (sT (lS 9))
noncomputable def nG : Comprehension := nthG (eGs nLC) 0
noncomputable def cN (n : Option AV) : AF := ⟨(eSc nLC).names, [none, n, none, none, none]⟩
noncomputable def h9 (c0 : AV) (a1 a2 : Int) (r : Nat) (i0 i1 i2 : List Int) (x : B10) (s0 s1 s2 s3 t : List AV) (T : Int) : H := h8 c0 a1 a2 r i0 i1 i2 x s0 s1 s2 s3 t ++ [.list [iA T], .list [c0, iA a1, .int a2 (.res 7 r), iA T], .list []]
theorem n_turn {σ : H} {i : Nat} {v : Option AV} {w : Int} {kn : Kn} (m : Nat) (hs : srcAt σ (.lst 91) i = some (some (.one (.int w kn)))) : ev ns lawOrc (m + 121) (.co (cN v) (eL nLC) [nG] (.lst 91) i 92) σ = ev ns lawOrc (m + 120) (.co (cN (some (.int w kn))) (eL nLC) [nG] (.lst 91) (i + 1) 92) σ := by
  let T := nthE nG.ifs 0
  have h1 : foAs (ev ns lawOrc (m + 120)) (cN v) nG.target (.lst 91) i σ = some (.f (cN (some (.int w kn))), σ) := by
    unfold foAs
    rw [hs]
    kernel_rfl
  have t1 : ev ns lawOrc (m + 117) (.t (cN (some (.int w kn))) (nthE (eAs T) 0)) σ = some (.b (!(w + (-w - 1) == -1)), σ) := by kernel_rfl
  have t2 : ev ns lawOrc (m + 116) (.t (cN (some (.int w kn))) (nthE (eAs T) 1)) σ = some (.b (!(Builtin.bitAnd (-1) w == w)), σ) := by kernel_rfl
  have hB2 : (!(Builtin.bitAnd (-1) w == w)) = false := by rw [and_neg1]; simp
  have h2 : ev ns lawOrc (m + 120) (.ifs (cN (some (.int w kn))) nG.ifs) σ = some (.b false, σ) := by
    rw [show nG.ifs = [.BoolOp .Or [nthE (eAs T) 0, nthE (eAs T) 1] (eP T)] by kernel_rfl]
    refine ifs_one (k := m + 118) ?_
    rw [t_boolop (k := m + 118)]
    refine (ts_or_f (k := m + 117) t1 (inv_add w)).trans ?_
    refine (ts_or_f (k := m + 116) t2 hB2).trans ?_
    exact ts_or_nil (k := m + 115)
  exact co_no (k := m + 120) (by kernel_rfl) h1 h2 rfl
theorem seg9 {m : Nat} {a : Int} (hc : c0 = .int a (.res 4 m)) : ev ns lawOrc 135 (.s (fr (frJ v1 v2 v3 v4 v5 v6 v7 v8 T)) (lS 9)) (h8 c0 a1 a2 r i0 i1 i2 x s0 s1 s2 s3 t) = some (.fl (fr (frJ v1 v2 v3 v4 v5 v6 v7 v8 T)) .next, h9 c0 a1 a2 r i0 i1 i2 x s0 s1 s2 s3 t T ++ [.list []]) := by
  subst hc
  let F := fr (frJ v1 v2 v3 v4 v5 v6 v7 v8 T)
  let σ := h9 (.int a (.res 4 m)) a1 a2 r i0 i1 i2 x s0 s1 s2 s3 t T
  have hco : ev ns lawOrc 132 (.co (cN none) (eL nLC) [nG] (.lst 91) 0 92) σ = some (.f (cN (some (iA T))), σ) := by
    refine (n_turn 11 (w := a) (kn := .res 4 m) (by kernel_rfl)).trans ((n_turn 10 (w := a1) (kn := .any) (by kernel_rfl)).trans ((n_turn 9 (w := a2) (kn := .res 7 r) (by kernel_rfl)).trans ((n_turn 8 (w := T) (kn := .any) (by kernel_rfl)).trans ?_)))
    exact co_end (k := 127) (by kernel_rfl) (by kernel_rfl)
  have hit : ev ns lawOrc 132 (.it F nG.iter) (h8 (.int a (.res 4 m)) a1 a2 r i0 i1 i2 x s0 s1 s2 s3 t) = some (.src (.lst 91), h8 (.int a (.res 4 m)) a1 a2 r i0 i1 i2 x s0 s1 s2 s3 t ++ [.list [iA T], .list [.int a (.res 4 m), iA a1, .int a2 (.res 7 r), iA T]]) := by kernel_rfl
  have hlc : ev ns lawOrc 133 (.e F nLC) (h8 (.int a (.res 4 m)) a1 a2 r i0 i1 i2 x s0 s1 s2 s3 t) = some (.v (.obj 92), σ) := by
    rw [show nLC = .ListComp (eL nLC) [nG] (eSc nLC) (eP nLC) by kernel_rfl]
    refine e_lc (k := 132) ?_
    have h5 : ev ns lawOrc 132 (.co (compFrame (eSc nLC).names F) (eL nLC) [nG] (.lst 91) 0 92) (h8 (.int a (.res 4 m)) a1 a2 r i0 i1 i2 x s0 s1 s2 s3 t ++ [.list [iA T], .list [.int a (.res 4 m), iA a1, .int a2 (.res 7 r), iA T]] ++ [.list []]) = some (.f (cN (some (iA T))), σ) := by
      rw [show compFrame (eSc nLC).names F = cN none by kernel_rfl]
      rw [show h8 (.int a (.res 4 m)) a1 a2 r i0 i1 i2 x s0 s1 s2 s3 t ++ [.list [iA T], .list [.int a (.res 4 m), iA a1, .int a2 (.res 7 r), iA T]] ++ [.list []] = σ by kernel_rfl]
      exact hco
    exact comp_e (by kernel_rfl) (by kernel_rfl) (by kernel_rfl) hit h5
  have ht : ev ns lawOrc 134 (.t F (sT (lS 9))) (h8 (.int a (.res 4 m)) a1 a2 r i0 i1 i2 x s0 s1 s2 s3 t) = some (.b false, σ ++ [.list []]) := by
    rw [show sT (lS 9) = .Compare nLC [.NotEq] [eR (sT (lS 9))] (eP (sT (lS 9))) by kernel_rfl]
    exact t_cmp (k := 132) (a := .obj 92) (b := .obj 93) (σ1 := σ) (by kernel_rfl) hlc (by kernel_rfl) (by kernel_rfl)
  rw [show lS 9 = .If (sT (lS 9)) (sB (lS 9)) (sO (lS 9)) (sP (lS 9)) by kernel_rfl]
  refine (s_if_f (k := 134) ht rfl).trans ?_
  kernel_rfl
noncomputable def frR (_v1 v2 v3 v4 v5 v6 v7 v8 : Option AV) (T : Int) (u1 u2 u3 u4 : Option AV) (tot : Int) : LV := { at_ := u1, one := v2, other := v3, ties := some (iA T), row := v4, figure := v5, due := v6, code := v7, answer := v8, worth := some (.obj 94), rings := some (.obj 105), guest := some (iA 4), ring := u2, whole := u3, lacks := u4, total := some (iA tot) }
noncomputable def h13 (c0 : AV) (a1 a2 : Int) (r : Nat) (i0 i1 i2 : List Int) (x : B10) (s0 s1 s2 s3 t : List AV) (T : Int) : H := h9 c0 a1 a2 r i0 i1 i2 x s0 s1 s2 s3 t T ++ [.list []] ++ (hWorth ++ hRings)
theorem seg10 : ev ns lawOrc 135 (.ss (fr (frJ v1 v2 v3 v4 v5 v6 v7 v8 T)) [lS 10, lS 11, lS 12, lS 13]) (h9 c0 a1 a2 r i0 i1 i2 x s0 s1 s2 s3 t T ++ [.list []]) = some (.fl (fr (frR v1 v2 v3 v4 v5 v6 v7 v8 T v1 none none none 0)) .next, h13 c0 a1 a2 r i0 i1 i2 x s0 s1 s2 s3 t T) := by kernel_rfl
/-! the total -/
noncomputable def stepT (W L tot : Int) : Int := match !(L != 0) with
  | true => tot + W
  | false => match anyEq L aloneI with
    | true => tot + L
    | false => tot
noncomputable def lackI (W T : Int) : Int := Builtin.bitAnd W (-T - 1)
noncomputable def rB (j : Nat) : Stmt := nthS (sB (lS 14)) j
theorem ring_if (m : Nat) (u1 u2 : Option AV) (W L tot : Int) : ev ns lawOrc (m + 86) (.s (fr (frR v1 v2 v3 v4 v5 v6 v7 v8 T u1 u2 (some (iA W)) (some (iA L)) tot)) (rB 3)) (h13 c0 a1 a2 r i0 i1 i2 x s0 s1 s2 s3 t T) =
    some (.fl (fr (frR v1 v2 v3 v4 v5 v6 v7 v8 T u1 u2 (some (iA W)) (some (iA L)) (stepT W L tot))) .next, h13 c0 a1 a2 r i0 i1 i2 x s0 s1 s2 s3 t T) := by
  have t1 : ev ns lawOrc (m + 85) (.t (fr (frR v1 v2 v3 v4 v5 v6 v7 v8 T u1 u2 (some (iA W)) (some (iA L)) tot)) (sT (rB 3))) (h13 c0 a1 a2 r i0 i1 i2 x s0 s1 s2 s3 t T) = some (.b (!(L != 0)), h13 c0 a1 a2 r i0 i1 i2 x s0 s1 s2 s3 t T) := by kernel_rfl
  rw [show rB 3 = .If (sT (rB 3)) (sB (rB 3)) [.If (sT (nthS (sO (rB 3)) 0)) (sB (nthS (sO (rB 3)) 0)) (sO (nthS (sO (rB 3)) 0)) (sP (nthS (sO (rB 3)) 0))] (sP (rB 3)) by kernel_rfl]
  have hu : stepT W L tot = (match !(L != 0) with
  | true => tot + W
  | false => match anyEq L aloneI with
    | true => tot + L
    | false => tot) := rfl
  rw [hu]
  cases h1 : (!(L != 0)) with
  | true =>
    refine (s_if_t (k := m + 85) t1 h1).trans ?_
    kernel_rfl
  | false =>
    refine (s_if_f (k := m + 85) t1 h1).trans ?_
    have t2 : ev ns lawOrc (m + 83) (.t (fr (frR v1 v2 v3 v4 v5 v6 v7 v8 T u1 u2 (some (iA W)) (some (iA L)) tot)) (sT (nthS (sO (rB 3)) 0))) (h13 c0 a1 a2 r i0 i1 i2 x s0 s1 s2 s3 t T) = some (.b (anyEq L aloneI), h13 c0 a1 a2 r i0 i1 i2 x s0 s1 s2 s3 t T) := by kernel_rfl
    refine ss_one (k := m + 83) ?_
    simp only
    cases h2 : anyEq L aloneI with
    | true =>
      refine (s_if_t (k := m + 83) t2 h2).trans ?_
      kernel_rfl
    | false =>
      refine (s_if_f (k := m + 83) t2 h2).trans ?_
      kernel_rfl
theorem ring_pre (m q : Nat) (hq : q < 37) (u1 u2 u3 u4 : Option AV) (tot : Int) : foTu (ev ns lawOrc (m + 90)) (fr (frR v1 v2 v3 v4 v5 v6 v7 v8 T u1 u2 u3 u4 tot)) (sT (lS 14)) (.lst 105) q [rB 0, rB 1, rB 2] (h13 c0 a1 a2 r i0 i1 i2 x s0 s1 s2 s3 t T) =
    some (.fl (fr (frR v1 v2 v3 v4 v5 v6 v7 v8 T (some (iA (Int.ofNat (ringAt q).2.1 - 1))) (some (.obj (ringAt q).1)) (some (iA (ringAt q).2.2)) (some (iA (lackI (ringAt q).2.2 T))) tot)) .next, h13 c0 a1 a2 r i0 i1 i2 x s0 s1 s2 s3 t T) := by
  rcases q with _ | _ | _ | _ | _ | _ | _ | _ | _ | _ | _ | _ | _ | _ | _ | _ | _ | _ | _ | _ | _ | _ | _ | _ | _ | _ | _ | _ | _ | _ | _ | _ | _ | _ | _ | _ | _ | q
  all_goals first | (exfalso; omega; done) | kernel_rfl
theorem ring_turn (m q : Nat) (hq : q < 37) (u1 u2 u3 u4 : Option AV) (tot : Int) : ∃ w1 w2 w3 w4, ev ns lawOrc (m + 91) (.fo (fr (frR v1 v2 v3 v4 v5 v6 v7 v8 T u1 u2 u3 u4 tot)) (sT (lS 14)) (.lst 105) q (sB (lS 14))) (h13 c0 a1 a2 r i0 i1 i2 x s0 s1 s2 s3 t T) =
    ev ns lawOrc (m + 90) (.fo (fr (frR v1 v2 v3 v4 v5 v6 v7 v8 T w1 w2 w3 w4 (stepT (ringAt q).2.2 (lackI (ringAt q).2.2 T) tot))) (sT (lS 14)) (.lst 105) (q + 1) (sB (lS 14))) (h13 c0 a1 a2 r i0 i1 i2 x s0 s1 s2 s3 t T) := by
  refine ⟨some (iA (Int.ofNat (ringAt q).2.1 - 1)), some (.obj (ringAt q).1), some (iA (ringAt q).2.2), some (iA (lackI (ringAt q).2.2 T)), fo_go (k := m + 90) ?_⟩
  have hp := ring_pre (ns := ns) (c0 := c0) (a1 := a1) (a2 := a2) (T := T) (r := r) (i0 := i0) (i1 := i1) (i2 := i2) (x := x) (s0 := s0) (s1 := s1) (s2 := s2) (s3 := s3) (t := t) (v1 := v1) (v2 := v2) (v3 := v3) (v4 := v4) (v5 := v5) (v6 := v6) (v7 := v7) (v8 := v8) m q hq u1 u2 u3 u4 tot
  obtain ⟨f1, σ1, e1, e2⟩ := toF_some hp
  have e3 := ss_app' (K := m + 90) [rB 0, rB 1, rB 2] [rB 3] (m + 86) (by kernel_rfl) e2
  have e4 := ss_one (k := m + 85) (ring_if (ns := ns) (c0 := c0) (a1 := a1) (a2 := a2) (T := T) (r := r) (i0 := i0) (i1 := i1) (i2 := i2) (x := x) (s0 := s0) (s1 := s1) (s2 := s2) (s3 := s3) (t := t) (v1 := v1) (v2 := v2) (v3 := v3) (v4 := v4) (v5 := v5) (v6 := v6) (v7 := v7) (v8 := v8) m (some (iA (Int.ofNat (ringAt q).2.1 - 1))) (some (.obj (ringAt q).1)) (ringAt q).2.2 (lackI (ringAt q).2.2 T) tot)
  have hb : sB (lS 14) = [rB 0, rB 1, rB 2] ++ [rB 3] := by kernel_rfl
  rw [hb]
  unfold foTu
  rw [e1]
  exact e3.trans e4
/-- the total of the rings from place q on, ties T -/
noncomputable def totFrom (T : Int) : Nat → Nat → Int → Int
  | 0, _, tot => tot
  | n + 1, q, tot => totFrom T n (q + 1) (stepT (ringAt q).2.2 (lackI (ringAt q).2.2 T) tot)
theorem ring_loop : ∀ (n q : Nat), q + n = 37 → ∀ (u1 u2 u3 u4 : Option AV) (tot : Int), ∃ w1 w2 w3 w4, ev ns lawOrc (n + 92) (.fo (fr (frR v1 v2 v3 v4 v5 v6 v7 v8 T u1 u2 u3 u4 tot)) (sT (lS 14)) (.lst 105) q (sB (lS 14))) (h13 c0 a1 a2 r i0 i1 i2 x s0 s1 s2 s3 t T) =
    some (.fl (fr (frR v1 v2 v3 v4 v5 v6 v7 v8 T w1 w2 w3 w4 (totFrom T n q tot))) .next, h13 c0 a1 a2 r i0 i1 i2 x s0 s1 s2 s3 t T)
  | 0, q, hq, u1, u2, u3, u4, tot => by
    obtain rfl : q = 37 := by omega
    exact ⟨u1, u2, u3, u4, fo_end (k := 91) (by kernel_rfl)⟩
  | n + 1, q, hq, u1, u2, u3, u4, tot => by
    obtain ⟨w1, w2, w3, w4, e⟩ := ring_turn (ns := ns) (c0 := c0) (a1 := a1) (a2 := a2) (T := T) (r := r) (i0 := i0) (i1 := i1) (i2 := i2) (x := x) (s0 := s0) (s1 := s1) (s2 := s2) (s3 := s3) (t := t) (v1 := v1) (v2 := v2) (v3 := v3) (v4 := v4) (v5 := v5) (v6 := v6) (v7 := v7) (v8 := v8) (n + 2) q (by omega) u1 u2 u3 u4 tot
    obtain ⟨z1, z2, z3, z4, ih⟩ := ring_loop n (q + 1) (by omega) w1 w2 w3 w4 (stepT (ringAt q).2.2 (lackI (ringAt q).2.2 T) tot)
    refine ⟨z1, z2, z3, z4, ?_⟩
    rw [show n + 1 + 92 = n + 2 + 91 by omega, e, show n + 2 + 90 = n + 92 by omega, ih]
    rfl
noncomputable def totF (T : Int) : Int := totFrom T 37 0 0
/-- statements 8 to 14 -/
theorem seg14 {m : Nat} {a : Int} (hc : c0 = .int a (.res 4 m)) (b : List Stmt) : ∃ w1 w2 w3 w4, ev ns lawOrc 137 (.ss (fr (frJ v1 v2 v3 v4 v5 v6 v7 v8 T)) (lS 8 :: lS 9 :: ([lS 10, lS 11, lS 12, lS 13] ++ (lS 14 :: b)))) (hM10 c0 a1 a2 r i0 i1 i2 x s0 s1 s2 s3 t) =
    ev ns lawOrc 130 (.ss (fr (frR v1 v2 v3 v4 v5 v6 v7 v8 T w1 w2 w3 w4 (totF T))) b) (h13 c0 a1 a2 r i0 i1 i2 x s0 s1 s2 s3 t T) := by
  obtain ⟨w1, w2, w3, w4, hl⟩ := ring_loop (ns := ns) (c0 := c0) (a1 := a1) (a2 := a2) (T := T) (r := r) (i0 := i0) (i1 := i1) (i2 := i2) (x := x) (s0 := s0) (s1 := s1) (s2 := s2) (s3 := s3) (t := t) (v1 := v1) (v2 := v2) (v3 := v3) (v4 := v4) (v5 := v5) (v6 := v6) (v7 := v7) (v8 := v8) 37 0 rfl v1 none none none 0
  refine ⟨w1, w2, w3, w4, ?_⟩
  refine (ss_cons (k := 136) seg8).trans ?_
  refine (ss_cons (k := 135) (seg9 hc)).trans ?_
  refine (ss_app' _ _ 130 135 (by kernel_rfl) seg10).trans ?_
  rw [show lS 14 = .For (sT (lS 14)) (sX (lS 14)) (sB (lS 14)) [] (sP (lS 14)) by kernel_rfl]
  exact ss_cons (k := 130) ((s_for (k := 129) (s := .lst 105) (by kernel_rfl)).trans hl)
end
end Mine
set_option maxRecDepth 100000
open PySem PySem.W PyProof.Rows
namespace Mine
/-! THE PLAIN LAW -/
/-- the rings' numbers; the total with naturals alone -/
noncomputable def wholeN : List Nat := [68987981825, 268501249, 73014509825, 4295036929, 65553, 4564455425, 269484049, 73015492625, 68720529409, 1048833, 4580180225, 4311744529, 69004689425, 68736254209, 16781313, 68720594960, 1114384, 68736319760, 16846864, 286265360, 68987916304, 268435728, 4312793360, 73014444304, 4294971408, 4296085760, 17830144, 285282560, 4563407104, 68719481088, 69004754944, 269549568, 73015558144, 4311810048, 4581228544, 68737302528, 73282879488]
noncomputable def aloneN : List Nat := [1, 16, 256, 4096, 65536, 1048576, 16777216, 268435456, 4294967296, 68719476736]
noncomputable def memN (L : Nat) : List Nat → Bool
  | [] => false
  | a :: r => match Nat.beq a L with
    | true => true
    | false => memN L r
noncomputable def stepN (W L tot : Nat) : Nat := match Nat.beq L 0 with
  | true => tot + W
  | false => match memN L aloneN with
    | true => tot + L
    | false => tot
noncomputable def totL (t : Nat) : List Nat → Nat → Nat
  | [], tot => tot
  | W :: r, tot => totL t r (stepN W (W - (W &&& t)) tot)
theorem mem_any (L : Nat) : ∀ l : List Nat, anyEq (L : Int) (l.map fun (n : Nat) => (n : Int)) = memN L l
  | [] => rfl
  | a :: l => by
    show ((a : Int) == (L : Int) || anyEq (L : Int) (l.map fun (n : Nat) => (n : Int))) = (match Nat.beq a L with
      | true => true
      | false => memN L l)
    rw [mem_any L l]
    cases h : Nat.beq a L with
    | true => rw [Nat.eq_of_beq_eq_true h]; simp
    | false =>
      have h2 : a ≠ L := Nat.ne_of_beq_eq_false h
      have h3 : ((a : Int) == (L : Int)) = false := by rw [beq_eq_false_iff_ne]; omega
      rw [h3]; rfl
theorem lack_nat (W t : Nat) : lackI (W : Int) (t : Int) = ((W - (W &&& t) : Nat) : Int) := by
  unfold lackI Builtin.bitAnd
  have h1 : decide (0 ≤ (W : Int)) = true := decide_eq_true (by omega)
  have h2 : decide (0 ≤ -(t : Int) - 1) = false := decide_eq_false (by omega)
  rw [h1, h2]
  simp only
  have e : (Builtin.bitNot (-(t : Int) - 1)).toNat = t := by unfold Builtin.bitNot; omega
  rw [e]
  show (W : Int) - (((W : Int).toNat &&& t : Nat) : Int) = _
  rw [Int.toNat_natCast]
  have := Nat.and_le_left (n := W) (m := t)
  omega
theorem step_nat (W L tot : Nat) : stepT (W : Int) (L : Int) (tot : Int) = ((stepN W L tot : Nat) : Int) := by
  unfold stepT stepN
  have ha : aloneI = aloneN.map fun (n : Nat) => (n : Int) := by rfl
  rw [ha, mem_any]
  cases h : Nat.beq L 0 with
  | true =>
    have : L = 0 := Nat.eq_of_beq_eq_true h
    subst this
    rfl
  | false =>
    have h0 : L ≠ 0 := Nat.ne_of_beq_eq_false h
    have h1 : ((L : Int) != 0) = true := by simp; omega
    rw [h1]
    cases memN L aloneN <;> rfl
theorem tot_nat (t : Nat) : ∀ (n q : Nat) (l : List Nat) (tot : Nat), (ringsL.drop q).map (fun p => p.2.2) = l.map (fun (n : Nat) => (n : Int)) → l.length = n → totFrom (t : Int) n q (tot : Int) = ((totL t l tot : Nat) : Int)
  | 0, q, l, tot, _, hl => by
    cases l with
    | nil => rfl
    | cons _ _ => cases hl
  | n + 1, q, l, tot, h, hl => by
    cases l with
    | nil => cases hl
    | cons W r =>
      cases hd : ringsL.drop q with
      | nil => rw [hd] at h; cases h
      | cons p rs =>
        rw [hd, List.map_cons, List.map_cons] at h
        obtain ⟨h1, h2⟩ := List.cons.inj h
        have hq : ringsL[q]? = some p := by rw [← List.head?_drop, hd]; rfl
        have hr : (ringAt q).2.2 = (W : Int) := by
          unfold ringAt
          rw [hq]; exact h1
        have hdr : ringsL.drop (q + 1) = rs := by rw [← List.tail_drop, hd]; rfl
        show totFrom (t : Int) n (q + 1) (stepT (ringAt q).2.2 (lackI (ringAt q).2.2 t) tot) = _
        rw [hr, lack_nat, step_nat, tot_nat t n (q + 1) r _ (by rw [hdr]; exact h2) (by simpa using hl)]
        rfl
noncomputable def addN (b : Bool) (T p : Nat) : Nat := match b with
  | true => T + p
  | false => T
noncomputable def tiesN (x : B10) : Nat := addN x.b9 (addN x.b8 (addN x.b7 (addN x.b6 (addN x.b5 (addN x.b4 (addN x.b3 (addN x.b2 (addN x.b1 (addN x.b0 0 1) 16) 256) 4096) 65536) 1048576) 16777216) 268435456) 4294967296) 68719476736
theorem addN_cast (b : Bool) (T p : Nat) : addT b (T : Int) (p : Int) = ((addN b T p : Nat) : Int) := by cases b <;> rfl
theorem ties_nat (x : B10) : tiesOf x = ((tiesN x : Nat) : Int) := by
  unfold tiesOf tiesN
  rw [← addN_cast, ← addN_cast, ← addN_cast, ← addN_cast, ← addN_cast, ← addN_cast, ← addN_cast, ← addN_cast, ← addN_cast, ← addN_cast]
  rfl
theorem totF_nat (x : B10) : totF (tiesOf x) = ((totL (tiesN x) wholeN 0 : Nat) : Int) := by
  rw [ties_nat]
  exact tot_nat _ 37 0 wholeN 0 (by kernel_rfl) (by kernel_rfl)

noncomputable def rd0 (x : B10) : Int := (((((((((((((((0 + bI (x.b1 && x.b4)) + bI ((x.b1 && x.b7) && x.b5)) + bI (((x.b1 && x.b7) && x.b9) && x.b6)) + bI ((x.b1 && x.b8) && x.b6)) + bI (((x.b1 && x.b8) && x.b9) && x.b5)) + bI (x.b2 && x.b5)) + bI ((x.b2 && x.b7) && x.b4)) + bI (((x.b2 && x.b7) && x.b8) && x.b6)) + bI ((x.b2 && x.b9) && x.b6)) + bI (((x.b2 && x.b9) && x.b8) && x.b4)) + bI (x.b3 && x.b6)) + bI ((x.b3 && x.b8) && x.b4)) + bI (((x.b3 && x.b8) && x.b7) && x.b5)) + bI ((x.b3 && x.b9) && x.b5)) + bI (((x.b3 && x.b9) && x.b7) && x.b4))
noncomputable def rd1 (x : B10) : Int := (((((((((((((((0 + bI (x.b0 && x.b4)) + bI ((x.b0 && x.b5) && x.b7)) + bI (((x.b0 && x.b5) && x.b9) && x.b8)) + bI ((x.b0 && x.b6) && x.b8)) + bI (((x.b0 && x.b6) && x.b9) && x.b7)) + bI (x.b2 && x.b7)) + bI ((x.b2 && x.b5) && x.b4)) + bI (((x.b2 && x.b5) && x.b6) && x.b8)) + bI ((x.b2 && x.b9) && x.b8)) + bI (((x.b2 && x.b9) && x.b6) && x.b4)) + bI (x.b3 && x.b8)) + bI ((x.b3 && x.b6) && x.b4)) + bI (((x.b3 && x.b6) && x.b5) && x.b7)) + bI ((x.b3 && x.b9) && x.b7)) + bI (((x.b3 && x.b9) && x.b5) && x.b4))
noncomputable def rd2 (x : B10) : Int := (((((((((((((((0 + bI (x.b0 && x.b5)) + bI ((x.b0 && x.b4) && x.b7)) + bI (((x.b0 && x.b4) && x.b8) && x.b9)) + bI ((x.b0 && x.b6) && x.b9)) + bI (((x.b0 && x.b6) && x.b8) && x.b7)) + bI (x.b1 && x.b7)) + bI ((x.b1 && x.b4) && x.b5)) + bI (((x.b1 && x.b4) && x.b6) && x.b9)) + bI ((x.b1 && x.b8) && x.b9)) + bI (((x.b1 && x.b8) && x.b6) && x.b5)) + bI (x.b3 && x.b9)) + bI ((x.b3 && x.b6) && x.b5)) + bI (((x.b3 && x.b6) && x.b4) && x.b7)) + bI ((x.b3 && x.b8) && x.b7)) + bI (((x.b3 && x.b8) && x.b4) && x.b5))
noncomputable def rd3 (x : B10) : Int := (((((((((((((((0 + bI (x.b0 && x.b6)) + bI ((x.b0 && x.b4) && x.b8)) + bI (((x.b0 && x.b4) && x.b7) && x.b9)) + bI ((x.b0 && x.b5) && x.b9)) + bI (((x.b0 && x.b5) && x.b7) && x.b8)) + bI (x.b1 && x.b8)) + bI ((x.b1 && x.b4) && x.b6)) + bI (((x.b1 && x.b4) && x.b5) && x.b9)) + bI ((x.b1 && x.b7) && x.b9)) + bI (((x.b1 && x.b7) && x.b5) && x.b6)) + bI (x.b2 && x.b9)) + bI ((x.b2 && x.b5) && x.b6)) + bI (((x.b2 && x.b5) && x.b4) && x.b8)) + bI ((x.b2 && x.b7) && x.b8)) + bI (((x.b2 && x.b7) && x.b4) && x.b6))
noncomputable def rd4 (x : B10) : Int := (((((((((((((((0 + bI (x.b0 && x.b1)) + bI ((x.b0 && x.b2) && x.b7)) + bI (((x.b0 && x.b2) && x.b9) && x.b8)) + bI ((x.b0 && x.b3) && x.b8)) + bI (((x.b0 && x.b3) && x.b9) && x.b7)) + bI (x.b5 && x.b7)) + bI ((x.b5 && x.b2) && x.b1)) + bI (((x.b5 && x.b2) && x.b3) && x.b8)) + bI ((x.b5 && x.b9) && x.b8)) + bI (((x.b5 && x.b9) && x.b3) && x.b1)) + bI (x.b6 && x.b8)) + bI ((x.b6 && x.b3) && x.b1)) + bI (((x.b6 && x.b3) && x.b2) && x.b7)) + bI ((x.b6 && x.b9) && x.b7)) + bI (((x.b6 && x.b9) && x.b2) && x.b1))
noncomputable def rd5 (x : B10) : Int := (((((((((((((((0 + bI (x.b0 && x.b2)) + bI ((x.b0 && x.b1) && x.b7)) + bI (((x.b0 && x.b1) && x.b8) && x.b9)) + bI ((x.b0 && x.b3) && x.b9)) + bI (((x.b0 && x.b3) && x.b8) && x.b7)) + bI (x.b4 && x.b7)) + bI ((x.b4 && x.b1) && x.b2)) + bI (((x.b4 && x.b1) && x.b3) && x.b9)) + bI ((x.b4 && x.b8) && x.b9)) + bI (((x.b4 && x.b8) && x.b3) && x.b2)) + bI (x.b6 && x.b9)) + bI ((x.b6 && x.b3) && x.b2)) + bI (((x.b6 && x.b3) && x.b1) && x.b7)) + bI ((x.b6 && x.b8) && x.b7)) + bI (((x.b6 && x.b8) && x.b1) && x.b2))
noncomputable def rd6 (x : B10) : Int := (((((((((((((((0 + bI (x.b0 && x.b3)) + bI ((x.b0 && x.b1) && x.b8)) + bI (((x.b0 && x.b1) && x.b7) && x.b9)) + bI ((x.b0 && x.b2) && x.b9)) + bI (((x.b0 && x.b2) && x.b7) && x.b8)) + bI (x.b4 && x.b8)) + bI ((x.b4 && x.b1) && x.b3)) + bI (((x.b4 && x.b1) && x.b2) && x.b9)) + bI ((x.b4 && x.b7) && x.b9)) + bI (((x.b4 && x.b7) && x.b2) && x.b3)) + bI (x.b5 && x.b9)) + bI ((x.b5 && x.b2) && x.b3)) + bI (((x.b5 && x.b2) && x.b1) && x.b8)) + bI ((x.b5 && x.b7) && x.b8)) + bI (((x.b5 && x.b7) && x.b1) && x.b3))
noncomputable def rd7 (x : B10) : Int := (((((((((((((((0 + bI (x.b1 && x.b2)) + bI ((x.b1 && x.b0) && x.b5)) + bI (((x.b1 && x.b0) && x.b6) && x.b9)) + bI ((x.b1 && x.b3) && x.b9)) + bI (((x.b1 && x.b3) && x.b6) && x.b5)) + bI (x.b4 && x.b5)) + bI ((x.b4 && x.b0) && x.b2)) + bI (((x.b4 && x.b0) && x.b3) && x.b9)) + bI ((x.b4 && x.b6) && x.b9)) + bI (((x.b4 && x.b6) && x.b3) && x.b2)) + bI (x.b8 && x.b9)) + bI ((x.b8 && x.b3) && x.b2)) + bI (((x.b8 && x.b3) && x.b0) && x.b5)) + bI ((x.b8 && x.b6) && x.b5)) + bI (((x.b8 && x.b6) && x.b0) && x.b2))
noncomputable def rd8 (x : B10) : Int := (((((((((((((((0 + bI (x.b1 && x.b3)) + bI ((x.b1 && x.b0) && x.b6)) + bI (((x.b1 && x.b0) && x.b5) && x.b9)) + bI ((x.b1 && x.b2) && x.b9)) + bI (((x.b1 && x.b2) && x.b5) && x.b6)) + bI (x.b4 && x.b6)) + bI ((x.b4 && x.b0) && x.b3)) + bI (((x.b4 && x.b0) && x.b2) && x.b9)) + bI ((x.b4 && x.b5) && x.b9)) + bI (((x.b4 && x.b5) && x.b2) && x.b3)) + bI (x.b7 && x.b9)) + bI ((x.b7 && x.b2) && x.b3)) + bI (((x.b7 && x.b2) && x.b0) && x.b6)) + bI ((x.b7 && x.b5) && x.b6)) + bI (((x.b7 && x.b5) && x.b0) && x.b3))
noncomputable def rd9 (x : B10) : Int := (((((((((((((((0 + bI (x.b2 && x.b3)) + bI ((x.b2 && x.b0) && x.b6)) + bI (((x.b2 && x.b0) && x.b4) && x.b8)) + bI ((x.b2 && x.b1) && x.b8)) + bI (((x.b2 && x.b1) && x.b4) && x.b6)) + bI (x.b5 && x.b6)) + bI ((x.b5 && x.b0) && x.b3)) + bI (((x.b5 && x.b0) && x.b1) && x.b8)) + bI ((x.b5 && x.b4) && x.b8)) + bI (((x.b5 && x.b4) && x.b1) && x.b3)) + bI (x.b7 && x.b8)) + bI ((x.b7 && x.b1) && x.b3)) + bI (((x.b7 && x.b1) && x.b0) && x.b6)) + bI ((x.b7 && x.b4) && x.b6)) + bI (((x.b7 && x.b4) && x.b0) && x.b3))
noncomputable def sumR (x : B10) : Int := rd0 x * 1 + rd1 x * 16 + rd2 x * 256 + rd3 x * 4096 + rd4 x * 65536 + rd5 x * 1048576 + rd6 x * 16777216 + rd7 x * 268435456 + rd8 x * 4294967296 + rd9 x * 68719476736
noncomputable def degI0 (x : B10) : Int := sumFrom 0 [0, bI x.b0, bI x.b1, bI x.b2, bI x.b3]
noncomputable def od0 (x : B10) : Bool := Int.fmod (degI0 x) 2 == 1
noncomputable def degI1 (x : B10) : Int := sumFrom 0 [bI x.b0, 0, bI x.b4, bI x.b5, bI x.b6]
noncomputable def od1 (x : B10) : Bool := Int.fmod (degI1 x) 2 == 1
noncomputable def degI2 (x : B10) : Int := sumFrom 0 [bI x.b1, bI x.b4, 0, bI x.b7, bI x.b8]
noncomputable def od2 (x : B10) : Bool := Int.fmod (degI2 x) 2 == 1
noncomputable def degI3 (x : B10) : Int := sumFrom 0 [bI x.b2, bI x.b5, bI x.b7, 0, bI x.b9]
noncomputable def od3 (x : B10) : Bool := Int.fmod (degI3 x) 2 == 1
noncomputable def degI4 (x : B10) : Int := sumFrom 0 [bI x.b3, bI x.b6, bI x.b8, bI x.b9, 0]
noncomputable def od4 (x : B10) : Bool := Int.fmod (degI4 x) 2 == 1
noncomputable def pl0 (x : B10) : Bool := x.b0 && !(Int.fmod (rd0 x) 2 == 1)
noncomputable def pl1 (x : B10) : Bool := x.b1 && !(Int.fmod (rd1 x) 2 == 1)
noncomputable def pl2 (x : B10) : Bool := x.b2 && !(Int.fmod (rd2 x) 2 == 1)
noncomputable def pl3 (x : B10) : Bool := x.b3 && !(Int.fmod (rd3 x) 2 == 1)
noncomputable def pl4 (x : B10) : Bool := x.b4 && !(Int.fmod (rd4 x) 2 == 1)
noncomputable def pl5 (x : B10) : Bool := x.b5 && !(Int.fmod (rd5 x) 2 == 1)
noncomputable def pl6 (x : B10) : Bool := x.b6 && !(Int.fmod (rd6 x) 2 == 1)
noncomputable def pl7 (x : B10) : Bool := x.b7 && !(Int.fmod (rd7 x) 2 == 1)
noncomputable def pl8 (x : B10) : Bool := x.b8 && !(Int.fmod (rd8 x) 2 == 1)
noncomputable def pl9 (x : B10) : Bool := x.b9 && !(Int.fmod (rd9 x) 2 == 1)
noncomputable def in16 (i : Int) : Bool := decide (0 ≤ i) && decide (i < 16)
noncomputable def em0 (x : B10) : Bool := !(od2 x) && !(od3 x) && !(od4 x)
noncomputable def pa0 (x : B10) : Bool := Int.fmod (rd0 x + degI0 x - bI x.b0) 2 == 1
noncomputable def em1 (x : B10) : Bool := !(od1 x) && !(od3 x) && !(od4 x)
noncomputable def pa1 (x : B10) : Bool := Int.fmod (rd1 x + degI0 x - bI x.b1) 2 == 1
noncomputable def em2 (x : B10) : Bool := !(od1 x) && !(od2 x) && !(od4 x)
noncomputable def pa2 (x : B10) : Bool := Int.fmod (rd2 x + degI0 x - bI x.b2) 2 == 1
noncomputable def em3 (x : B10) : Bool := !(od1 x) && !(od2 x) && !(od3 x)
noncomputable def pa3 (x : B10) : Bool := Int.fmod (rd3 x + degI0 x - bI x.b3) 2 == 1
noncomputable def em4 (x : B10) : Bool := !(od0 x) && !(od3 x) && !(od4 x)
noncomputable def pa4 (x : B10) : Bool := Int.fmod (rd4 x + degI1 x - bI x.b4) 2 == 1
noncomputable def em5 (x : B10) : Bool := !(od0 x) && !(od2 x) && !(od4 x)
noncomputable def pa5 (x : B10) : Bool := Int.fmod (rd5 x + degI1 x - bI x.b5) 2 == 1
noncomputable def em6 (x : B10) : Bool := !(od0 x) && !(od2 x) && !(od3 x)
noncomputable def pa6 (x : B10) : Bool := Int.fmod (rd6 x + degI1 x - bI x.b6) 2 == 1
noncomputable def em7 (x : B10) : Bool := !(od0 x) && !(od1 x) && !(od4 x)
noncomputable def pa7 (x : B10) : Bool := Int.fmod (rd7 x + degI2 x - bI x.b7) 2 == 1
noncomputable def em8 (x : B10) : Bool := !(od0 x) && !(od1 x) && !(od3 x)
noncomputable def pa8 (x : B10) : Bool := Int.fmod (rd8 x + degI2 x - bI x.b8) 2 == 1
noncomputable def em9 (x : B10) : Bool := !(od0 x) && !(od1 x) && !(od2 x)
noncomputable def pa9 (x : B10) : Bool := Int.fmod (rd9 x + degI3 x - bI x.b9) 2 == 1
noncomputable def noOdd (x : B10) : Bool := !(od0 x) && !(od1 x) && !(od2 x) && !(od3 x) && !(od4 x)
noncomputable def noPl (x : B10) : Bool := !(pl0 x) && !(pl1 x) && !(pl2 x) && !(pl3 x) && !(pl4 x) && !(pl5 x) && !(pl6 x) && !(pl7 x) && !(pl8 x) && !(pl9 x)
noncomputable def chk (x : B10) : Bool := (Int.ofNat (totL (tiesN x) wholeN 0) == sumR x) && (in16 (rd0 x) && in16 (rd1 x) && in16 (rd2 x) && in16 (rd3 x) && in16 (rd4 x) && in16 (rd5 x) && in16 (rd6 x) && in16 (rd7 x) && in16 (rd8 x) && in16 (rd9 x)) && (noOdd x == noPl x) && (!(em0 x && pa0 x) && !(em1 x && pa1 x) && !(em2 x && pa2 x) && !(em3 x && pa3 x) && !(em4 x && pa4 x) && !(em5 x && pa5 x) && !(em6 x && pa6 x) && !(em7 x && pa7 x) && !(em8 x && pa8 x) && !(em9 x && pa9 x))
noncomputable def allB (f : Bool → Bool) : Bool := f false && f true
theorem allB_all {f : Bool → Bool} (h : allB f = true) : ∀ b, f b = true := by
  unfold allB at h
  rw [Bool.and_eq_true] at h
  intro b; cases b
  · exact h.1
  · exact h.2
theorem chkP (b0 b1 b2 : Bool) (h : (allB fun b3 => allB fun b4 => allB fun b5 => allB fun b6 => allB fun b7 => allB fun b8 => allB fun b9 => chk ⟨b0, b1, b2, b3, b4, b5, b6, b7, b8, b9⟩) = true) (b3 b4 b5 b6 b7 b8 b9 : Bool) : chk ⟨b0, b1, b2, b3, b4, b5, b6, b7, b8, b9⟩ = true :=
  allB_all (allB_all (allB_all (allB_all (allB_all (allB_all (allB_all h b3) b4) b5) b6) b7) b8) b9

theorem chk_fff : (allB fun b3 => allB fun b4 => allB fun b5 => allB fun b6 => allB fun b7 => allB fun b8 => allB fun b9 => chk ⟨false, false, false, b3, b4, b5, b6, b7, b8, b9⟩) = true := by kernel_rfl
theorem chk_fft : (allB fun b3 => allB fun b4 => allB fun b5 => allB fun b6 => allB fun b7 => allB fun b8 => allB fun b9 => chk ⟨false, false, true, b3, b4, b5, b6, b7, b8, b9⟩) = true := by kernel_rfl
theorem chk_ftf : (allB fun b3 => allB fun b4 => allB fun b5 => allB fun b6 => allB fun b7 => allB fun b8 => allB fun b9 => chk ⟨false, true, false, b3, b4, b5, b6, b7, b8, b9⟩) = true := by kernel_rfl
theorem chk_ftt : (allB fun b3 => allB fun b4 => allB fun b5 => allB fun b6 => allB fun b7 => allB fun b8 => allB fun b9 => chk ⟨false, true, true, b3, b4, b5, b6, b7, b8, b9⟩) = true := by kernel_rfl
theorem chk_tff : (allB fun b3 => allB fun b4 => allB fun b5 => allB fun b6 => allB fun b7 => allB fun b8 => allB fun b9 => chk ⟨true, false, false, b3, b4, b5, b6, b7, b8, b9⟩) = true := by kernel_rfl
theorem chk_tft : (allB fun b3 => allB fun b4 => allB fun b5 => allB fun b6 => allB fun b7 => allB fun b8 => allB fun b9 => chk ⟨true, false, true, b3, b4, b5, b6, b7, b8, b9⟩) = true := by kernel_rfl
theorem chk_ttf : (allB fun b3 => allB fun b4 => allB fun b5 => allB fun b6 => allB fun b7 => allB fun b8 => allB fun b9 => chk ⟨true, true, false, b3, b4, b5, b6, b7, b8, b9⟩) = true := by kernel_rfl
theorem chk_ttt : (allB fun b3 => allB fun b4 => allB fun b5 => allB fun b6 => allB fun b7 => allB fun b8 => allB fun b9 => chk ⟨true, true, true, b3, b4, b5, b6, b7, b8, b9⟩) = true := by kernel_rfl
theorem chk_all (x : B10) : chk x = true := by
  obtain ⟨b0, b1, b2, b3, b4, b5, b6, b7, b8, b9⟩ := x
  cases b0 <;> cases b1 <;> cases b2
  · exact chkP _ _ _ chk_fff _ _ _ _ _ _ _
  · exact chkP _ _ _ chk_fft _ _ _ _ _ _ _
  · exact chkP _ _ _ chk_ftf _ _ _ _ _ _ _
  · exact chkP _ _ _ chk_ftt _ _ _ _ _ _ _
  · exact chkP _ _ _ chk_tff _ _ _ _ _ _ _
  · exact chkP _ _ _ chk_tft _ _ _ _ _ _ _
  · exact chkP _ _ _ chk_ttf _ _ _ _ _ _ _
  · exact chkP _ _ _ chk_ttt _ _ _ _ _ _ _
end Mine
set_option maxRecDepth 100000
open PySem PySem.W PyProof.Rows
namespace Mine
/-! LETTERS -/
noncomputable def le1 (m : Nat) : UInt8 := UInt8.ofNat (65 + m)
theorem le1_nat {m : Nat} (h : m < 16) : (le1 m).toNat = 65 + m := by
  unfold le1
  rw [UInt8.toNat_ofNat']
  show (65 + m) % 256 = 65 + m
  omega
theorem le1_inj {m n : Nat} (hm : m < 16) (hn : n < 16) (h : le1 m = le1 n) : m = n := by
  have := congrArg UInt8.toNat h
  rw [le1_nat hm, le1_nat hn] at this
  omega
theorem sl1_le {m : Nat} (h : m < 16) : sl1 (m : Int) = [le1 m] := by
  have : ∀ m : Fin 16, sl1 (m.val : Int) = [le1 m.val] := by decide
  exact this ⟨m, h⟩
theorem ltrs_succ (k : Nat) (T : Nat) (v : List UInt8) : ltrs (k + 1) (T : Int) v = if T = 0 then v else ltrs k ((T / 16 : Nat) : Int) (le1 (T % 16) :: v) := by
  have hu : ltrs (k + 1) (T : Int) v = (match (T : Int) != 0 with
      | false => v
      | true => ltrs k (Int.fdiv T 16) (sl1 (Int.fmod T 16) ++ v)) := rfl
  rw [hu]
  by_cases h : T = 0
  · subst h; rfl
  · rw [if_neg h]
    have e : ((T : Int) != 0) = true := by simp; omega
    rw [e]
    simp only
    have e1 : Int.fdiv (T : Int) 16 = ((T / 16 : Nat) : Int) := by rw [Int.fdiv_eq_ediv_of_nonneg _ (by decide)]; omega
    have e2 : Int.fmod (T : Int) 16 = ((T % 16 : Nat) : Int) := by rw [Int.fmod_eq_emod_of_nonneg _ (by decide)]; omega
    rw [e1, e2, sl1_le (Nat.mod_lt _ (by decide))]
    rfl
theorem ltrs_zero (k : Nat) (v : List UInt8) : ltrs k ((0 : Nat) : Int) v = v := by
  cases k with
  | zero => rfl
  | succ k => rw [ltrs_succ, if_pos rfl]
theorem ltrs_acc : ∀ (k T : Nat) (v : List UInt8), ltrs k (T : Int) v = ltrs k (T : Int) [] ++ v
  | 0, T, v => rfl
  | k + 1, T, v => by
    rw [ltrs_succ, ltrs_succ]
    by_cases h : T = 0
    · rw [if_pos h, if_pos h]; rfl
    · rw [if_neg h, if_neg h, ltrs_acc k _ (_ :: v), ltrs_acc k _ [_], List.append_assoc]; rfl
theorem ltrs_fuel : ∀ (n k k' T : Nat) (v : List UInt8), T < 16 ^ n → n ≤ k → n ≤ k' → ltrs k (T : Int) v = ltrs k' (T : Int) v
  | 0, k, k', T, v, h, _, _ => by
    obtain rfl : T = 0 := by simp at h; exact h
    rw [ltrs_zero, ltrs_zero]
  | n + 1, k + 1, k' + 1, T, v, h, h1, h2 => by
    rw [ltrs_succ, ltrs_succ]
    by_cases h0 : T = 0
    · rw [if_pos h0, if_pos h0]
    · rw [if_neg h0, if_neg h0]
      exact ltrs_fuel n k k' _ _ (by rw [Nat.pow_succ] at h; omega) (by omega) (by omega)
  | n + 1, 0, _, _, _, _, h1, _ => by omega
  | n + 1, _ + 1, 0, _, _, _, _, h2 => by omega
theorem rep_comm : ∀ n : Nat, repL n [(65 : UInt8)] ++ [65] = 65 :: repL n [65]
  | 0 => rfl
  | n + 1 => by
    show ([65] ++ repL n [65]) ++ [65] = _
    rw [List.append_assoc, rep_comm n]; rfl
theorem ltrs_shift : ∀ (j k T : Nat) (v : List UInt8), T ≠ 0 → ltrs (k + j) ((T * 16 ^ j : Nat) : Int) v = ltrs k (T : Int) (repL j [65] ++ v)
  | 0, k, T, v, h => by simp only [Nat.pow_zero, Nat.mul_one, Nat.add_zero]; rfl
  | j + 1, k, T, v, h => by
    rw [show k + (j + 1) = k + j + 1 by omega, ltrs_succ]
    have e : T * 16 ^ (j + 1) = T * 16 ^ j * 16 := by rw [Nat.pow_succ, Nat.mul_assoc]
    have hne : T * 16 ^ (j + 1) ≠ 0 := Nat.mul_ne_zero h (Nat.pos_iff_ne_zero.mp (Nat.pow_pos (by decide)))
    rw [if_neg hne, e, Nat.mul_div_cancel _ (by decide), Nat.mul_mod_left, ltrs_shift j k T _ h]
    show ltrs k (T : Int) (repL j [65] ++ ([65] ++ v)) = ltrs k (T : Int) ((65 :: repL j [65]) ++ v)
    rw [← List.append_assoc, rep_comm]
noncomputable def full : Nat → Nat → List UInt8
  | 0, _ => []
  | n + 1, T => full n (T / 16) ++ [le1 (T % 16)]
theorem full_zero : ∀ n, full n 0 = repL n [65]
  | 0 => rfl
  | n + 1 => by
    show full n (0 / 16) ++ [le1 (0 % 16)] = [65] ++ repL n [65]
    rw [Nat.zero_div, full_zero n]
    exact rep_comm n
theorem ltrs_pad : ∀ (n k T : Nat), T < 16 ^ n → n ≤ k → (ltrs k (T : Int) []).length ≤ n ∧ repL (n - (ltrs k (T : Int) []).length) [65] ++ ltrs k (T : Int) [] = full n T
  | 0, k, T, h, _ => by
    obtain rfl : T = 0 := by simp at h; exact h
    rw [ltrs_zero]; exact ⟨Nat.le_refl _, rfl⟩
  | n + 1, 0, _, _, h1 => by omega
  | n + 1, k + 1, T, h, h1 => by
    by_cases h0 : T = 0
    · subst h0
      rw [ltrs_zero, full_zero]
      exact ⟨Nat.zero_le _, List.append_nil _⟩
    · rw [ltrs_succ, if_neg h0, ltrs_acc]
      obtain ⟨i1, i2⟩ := ltrs_pad n k (T / 16) (by rw [Nat.pow_succ] at h; omega) (by omega)
      rw [List.length_append, List.length_singleton]
      refine ⟨by omega, ?_⟩
      show repL (n + 1 - ((ltrs k ((T / 16 : Nat) : Int) []).length + 1)) [65] ++ _ = _
      rw [Nat.add_sub_add_right, ← List.append_assoc, i2]; rfl
theorem ltrs_head : ∀ (k T : Nat), T ≠ 0 → T < 16 ^ k → ∃ c r, ltrs k (T : Int) [] = c :: r ∧ c ≠ 65
  | 0, T, h0, h => by simp at h; omega
  | k + 1, T, h0, h => by
    rw [ltrs_succ, if_neg h0, ltrs_acc]
    by_cases h1 : T / 16 = 0
    · rw [h1, ltrs_zero]
      refine ⟨le1 (T % 16), [], rfl, fun e => ?_⟩
      have := le1_inj (m := T % 16) (n := 0) (Nat.mod_lt _ (by decide)) (by decide) e
      omega
    · obtain ⟨c, r, e, hc⟩ := ltrs_head k (T / 16) h1 (by rw [Nat.pow_succ] at h; omega)
      rw [e]
      exact ⟨c, _, rfl, hc⟩

/-- the word of a total -/
noncomputable def lv (u : UInt8) : Int := Int.ofNat u.toNat - 65
theorem lv_le1 {m : Nat} (h : m < 16) : lv (le1 m) = (m : Int) := by
  unfold lv
  rw [le1_nat h]
  show ((65 + m : Nat) : Int) - 65 = m
  omega
section
variable {T : Nat}
theorem w_len (h : T < 16 ^ 10) : (lettersOf (T : Int)).length ≤ 10 := (ltrs_pad 10 31 T h (by decide)).1
theorem w_neg : lettersOf (-(T : Int)) = lettersOf (T : Int) := by
  unfold lettersOf
  rw [Int.natAbs_neg]
theorem w_head (h : T < 16 ^ 10) : ((lettersOf (T : Int)).take 1 == [65]) = false := by
  by_cases h0 : T = 0
  · subst h0; rfl
  · obtain ⟨c, r, e, hc⟩ := ltrs_head 31 T h0 (Nat.lt_of_lt_of_le h (by decide))
    have e' : lettersOf (T : Int) = c :: r := e
    rw [e']
    show ([c] == [65]) = false
    apply beq_eq_false_iff_ne.mpr
    intro q
    exact hc (List.cons.inj q).1
theorem w_non (h : T < 16 ^ 10) : ((!(nonE (lettersOf (T : Int)))) != ((T : Int) == 0)) = false := by
  by_cases h0 : T = 0
  · subst h0; rfl
  · obtain ⟨c, r, e, hc⟩ := ltrs_head 31 T h0 (Nat.lt_of_lt_of_le h (by decide))
    have e' : lettersOf (T : Int) = c :: r := e
    rw [e']
    have : ((T : Int) == 0) = false := by apply beq_eq_false_iff_ne.mpr; omega
    rw [this]; rfl
theorem w_shift0 : lettersOf (-((0 : Nat) : Int) * 2 ^ 80) = [] := by
  unfold lettersOf
  rfl
theorem w_shift (h : T < 16 ^ 10) (h0 : T ≠ 0) : lettersOf (-(T : Int) * 2 ^ 80) = lettersOf (T : Int) ++ repL 20 [65] := by
  unfold lettersOf
  have e : (-(T : Int) * 2 ^ 80).natAbs = T * 16 ^ 20 := by
    rw [Int.natAbs_mul, Int.natAbs_neg]
    show T * (2 ^ 80 : Int).natAbs = T * 16 ^ 20
    rw [show (2 ^ 80 : Int).natAbs = 16 ^ 20 by decide]
  rw [e]
  have e2 : (T : Int).natAbs = T := Int.natAbs_natCast T
  rw [e2]
  show ltrs (11 + 20) ((T * 16 ^ 20 : Nat) : Int) [] = ltrs 31 (T : Int) [] ++ repL 20 [65]
  rw [ltrs_shift 20 11 T [] h0, List.append_nil, ltrs_acc, ltrs_fuel 10 11 31 T [] h (by decide) (by decide)]
/-- the ten letters -/
theorem w_pad (h : T < 16 ^ 10) : repL (10 - (lettersOf (T : Int)).length) [65] ++ lettersOf (T : Int) = full 10 T := (ltrs_pad 10 31 T h (by decide)).2
theorem contains_rep (w : List UInt8) : ∀ n, (repL n [65] ++ w).contains 80 = w.contains 80
  | 0 => rfl
  | n + 1 => by
    show ((65 : UInt8) :: (repL n [65] ++ w)).contains 80 = _
    rw [List.contains_cons, contains_rep w n]; rfl
theorem full_ten {d0 d1 d2 d3 d4 d5 d6 d7 d8 d9 : Nat} (h0 : d0 < 16) (h1 : d1 < 16) (h2 : d2 < 16) (h3 : d3 < 16) (h4 : d4 < 16) (h5 : d5 < 16) (h6 : d6 < 16) (h7 : d7 < 16) (h8 : d8 < 16) (h9 : d9 < 16)
    (hT : T = d0 + 16 * (d1 + 16 * (d2 + 16 * (d3 + 16 * (d4 + 16 * (d5 + 16 * (d6 + 16 * (d7 + 16 * (d8 + 16 * d9))))))))) : full 10 T = [le1 d9, le1 d8, le1 d7, le1 d6, le1 d5, le1 d4, le1 d3, le1 d2, le1 d1, le1 d0] := by
  have st : ∀ n d r, d < 16 → full (n + 1) (d + 16 * r) = full n r ++ [le1 d] := by
    intro n d r hd
    show full n ((d + 16 * r) / 16) ++ [le1 ((d + 16 * r) % 16)] = _
    rw [show (d + 16 * r) / 16 = r by omega, show (d + 16 * r) % 16 = d by omega]
  rw [hT, st _ _ _ h0, st _ _ _ h1, st _ _ _ h2, st _ _ _ h3, st _ _ _ h4, st _ _ _ h5, st _ _ _ h6, st _ _ _ h7, st _ _ _ h8, show d9 = d9 + 16 * 0 by omega, st _ _ _ h9]
  rfl
end
end Mine
set_option maxRecDepth 100000
open PySem PySem.W PyProof.Rows
namespace Mine
/-- what is no longer looked at -/
structure LJ where
  (at_ one other ties row figure due code answer ring whole lacks : Option AV)
structure HQ where
  c0 : AV
  (a1 a2 : Int)
  r : Nat
  (i0 i1 i2 : List Int)
  (s0 s1 s2 s3 t : List AV)
  T : Int
noncomputable def hC (p : HQ) (x : B10) : H := h13 p.c0 p.a1 p.a2 p.r p.i0 p.i1 p.i2 x p.s0 p.s1 p.s2 p.s3 p.t p.T
noncomputable def totK (T : Nat) : AV := .int (T : Int) (.itv 0 1099511627776)
noncomputable def frC (j : LJ) (total word letters odd plain : Option AV) : LV := { at_ := j.at_, one := j.one, other := j.other, ties := j.ties, row := j.row, figure := j.figure, due := j.due, code := j.code, answer := j.answer, worth := some (.obj 94), rings := some (.obj 105), guest := some (iA 4), ring := j.ring, whole := j.whole, lacks := j.lacks, total := total, word := word, letters := letters, odd := odd, plain := plain }
section
variable {ns : List Int} {p : HQ} {x : B10} {j : LJ} {T : Nat}
theorem seg15 : ev ns lawOrc 129 (.s (fr (frC j (some (totK T)) none none none none)) (lS 15)) (hC p x) = some (.fl (fr (frC j (some (totK T)) (some (.bytes (lettersOf (T : Int)) 31)) none none none)) .next, hC p x) := by
  have ht : ev ns lawOrc 127 (.t (fr (frC j (some (totK T)) none none none none)) (eL (sX (lS 15)))) (hC p x) = some (.b (Int.fmod (Int.fdiv p.a2 7) 2 == 1), hC p x) := by kernel_rfl
  rw [show lS 15 = .Assign [sT (lS 15)] (.IfExp (eL (sX (lS 15))) (eR (sX (lS 15))) (eO (sX (lS 15))) (eP (sX (lS 15)))) (sP (lS 15)) by kernel_rfl]
  cases hB : (Int.fmod (Int.fdiv p.a2 7) 2 == 1) with
  | true =>
    refine s_asg (k := 128) (σ1 := hC p x) (v := .bytes (lettersOf (T : Int)) 31) (by rfl) (by kernel_rfl) ?_ (by kernel_rfl)
    refine (e_ifexp_t (k := 127) ht hB).trans ?_
    rw [← w_neg]
    kernel_rfl
  | false =>
    refine s_asg (k := 128) (σ1 := hC p x) (v := .bytes (lettersOf (T : Int)) 31) (by rfl) (by kernel_rfl) ?_ (by kernel_rfl)
    refine (e_ifexp_f (k := 127) ht hB).trans ?_
    kernel_rfl
theorem seg16 {wl : List UInt8} (h1 : (wl.take 1 == [65]) = false) (h2 : ((!(nonE wl)) != ((T : Int) == 0)) = false) : ev ns lawOrc 128 (.s (fr (frC j (some (totK T)) (some (.bytes wl 31)) none none none)) (lS 16)) (hC p x) = some (.fl (fr (frC j (some (totK T)) (some (.bytes wl 31)) none none none)) .next, hC p x) := by
  let F := fr (frC j (some (totK T)) (some (.bytes wl 31)) none none none)
  have t0 : ev ns lawOrc 125 (.t F (nthE (eAs (sT (lS 16))) 0)) (hC p x) = some (.b false, hC p x) := by kernel_rfl
  have t1 : ev ns lawOrc 124 (.t F (nthE (eAs (sT (lS 16))) 1)) (hC p x) = some (.b (wl.take 1 == [65]), hC p x) := by kernel_rfl
  have t2 : ev ns lawOrc 123 (.t F (nthE (eAs (sT (lS 16))) 2)) (hC p x) = some (.b ((!(nonE wl)) != ((T : Int) == 0)), hC p x) := by kernel_rfl
  have ht : ev ns lawOrc 127 (.t F (sT (lS 16))) (hC p x) = some (.b false, hC p x) := by
    rw [show sT (lS 16) = .BoolOp .Or [nthE (eAs (sT (lS 16))) 0, nthE (eAs (sT (lS 16))) 1, nthE (eAs (sT (lS 16))) 2] (eP (sT (lS 16))) by kernel_rfl]
    refine (t_boolop (k := 126)).trans ?_
    refine (ts_or_f (k := 125) t0 rfl).trans ?_
    refine (ts_or_f (k := 124) t1 h1).trans ?_
    refine (ts_or_f (k := 123) t2 h2).trans ?_
    exact ts_or_nil (k := 122)
  rw [show lS 16 = .If (sT (lS 16)) (sB (lS 16)) (sO (lS 16)) (sP (lS 16)) by kernel_rfl]
  refine (s_if_f (k := 127) ht rfl).trans ?_
  kernel_rfl
theorem seg17 (hT : T < 16 ^ 10) : ev ns lawOrc 127 (.s (fr (frC j (some (totK T)) (some (.bytes (lettersOf (T : Int)) 31)) none none none)) (lS 17)) (hC p x) = some (.fl (fr (frC j (some (totK T)) (some (.bytes (lettersOf (T : Int)) 31)) none none none)) .next, hC p x) := by
  let F := fr (frC j (some (totK T)) (some (.bytes (lettersOf (T : Int)) 31)) none none none)
  let R := eR (sT (lS 17))
  have hl : ev ns lawOrc 125 (.e F (eL (sT (lS 17)))) (hC p x) = some (.v (.bytes (lettersOf (-(T : Int) * 2 ^ 80)) 31), hC p x) := by kernel_rfl
  have ht0 : ev ns lawOrc 123 (.t F (eL R)) (hC p x) = some (.b (!(decide ((T : Int) ≤ 0))), hC p x) := by kernel_rfl
  have ht : ev ns lawOrc 126 (.t F (sT (lS 17))) (hC p x) = some (.b false, hC p x) := by
    rw [show sT (lS 17) = .Compare (eL (sT (lS 17))) [.NotEq] [.IfExp (eL R) (eR R) (eO R) (eP R)] (eP (sT (lS 17))) by kernel_rfl]
    by_cases h0 : T = 0
    · subst h0
      refine t_cmp (k := 124) (b := .bytes [] 0) (σ1 := hC p x) (by kernel_rfl) hl ((e_ifexp_f (k := 123) ht0 (by rfl)).trans (by kernel_rfl)) ?_
      rw [w_shift0]; rfl
    · have hd : decide ((T : Int) ≤ 0) = false := decide_eq_false (by omega)
      refine t_cmp (k := 124) (b := .bytes (lettersOf (T : Int) ++ repL 20 [65]) 51) (σ1 := hC p x) (by kernel_rfl) hl ((e_ifexp_t (k := 123) ht0 (by rw [hd]; rfl)).trans (by kernel_rfl)) ?_
      rw [w_shift hT h0]
      show (match some ((lettersOf (T : Int) ++ repL 20 [65]) == (lettersOf (T : Int) ++ repL 20 [65])) with
        | some c => some (!c)
        | none => none) = some false
      rw [beq_self_eq_true]; rfl
  rw [show lS 17 = .If (sT (lS 17)) (sB (lS 17)) (sO (lS 17)) (sP (lS 17)) by kernel_rfl]
  refine (s_if_f (k := 126) ht rfl).trans ?_
  kernel_rfl
noncomputable def lvA (u : UInt8) : AV := iA (lv u)
noncomputable def padL (wl : List UInt8) : List AV := (repL (10 - wl.length) [65] ++ wl).map lvA
theorem seg18 {wl : List UInt8} (h : wl.length ≤ 10) : ev ns lawOrc 126 (.s (fr (frC j (some (totK T)) (some (.bytes wl 31)) none none none)) (lS 18)) (hC p x) = some (.fl (fr (frC j (some (totK T)) (some (.bytes wl 31)) (some (.obj 280)) none none)) .next, hC p x ++ [.list (padL wl), .list (padL wl).reverse]) := by
  match wl, h with

  | [], _ => kernel_rfl
  | [w0], _ => kernel_rfl
  | [w0, w1], _ => kernel_rfl
  | [w0, w1, w2], _ => kernel_rfl
  | [w0, w1, w2, w3], _ => kernel_rfl
  | [w0, w1, w2, w3, w4], _ => kernel_rfl
  | [w0, w1, w2, w3, w4, w5], _ => kernel_rfl
  | [w0, w1, w2, w3, w4, w5, w6], _ => kernel_rfl
  | [w0, w1, w2, w3, w4, w5, w6, w7], _ => kernel_rfl
  | [w0, w1, w2, w3, w4, w5, w6, w7, w8], _ => kernel_rfl
  | [w0, w1, w2, w3, w4, w5, w6, w7, w8, w9], _ => kernel_rfl
  | _ :: _ :: _ :: _ :: _ :: _ :: _ :: _ :: _ :: _ :: _ :: _, h => simp only [List.length_cons] at h; omega
noncomputable def dsL (D : List Int) : List AV := D.map fun d => iA d
noncomputable abbrev ten (d0 d1 d2 d3 d4 d5 d6 d7 d8 d9 : Int) : List Int := [d0, d1, d2, d3, d4, d5, d6, d7, d8, d9]
theorem seg19 {wl : List UInt8} {g : List AV} {d0 d1 d2 d3 d4 d5 d6 d7 d8 d9 : Int} (h : (wl.contains 80 != anyEq 15 (ten d0 d1 d2 d3 d4 d5 d6 d7 d8 d9)) = false) : ev ns lawOrc 125 (.s (fr (frC j (some (totK T)) (some (.bytes wl 31)) (some (.obj 280)) none none)) (lS 19)) (hC p x ++ [.list g, .list (dsL (ten d0 d1 d2 d3 d4 d5 d6 d7 d8 d9))]) =
    some (.fl (fr (frC j (some (totK T)) (some (.bytes wl 31)) (some (.obj 280)) none none)) .next, hC p x ++ [.list g, .list (dsL (ten d0 d1 d2 d3 d4 d5 d6 d7 d8 d9))]) := by
  have ht : ev ns lawOrc 124 (.t (fr (frC j (some (totK T)) (some (.bytes wl 31)) (some (.obj 280)) none none)) (sT (lS 19))) (hC p x ++ [.list g, .list (dsL (ten d0 d1 d2 d3 d4 d5 d6 d7 d8 d9))]) = some (.b (wl.contains 80 != anyEq 15 (ten d0 d1 d2 d3 d4 d5 d6 d7 d8 d9)), hC p x ++ [.list g, .list (dsL (ten d0 d1 d2 d3 d4 d5 d6 d7 d8 d9))]) := by kernel_rfl
  rw [show lS 19 = .If (sT (lS 19)) (sB (lS 19)) (sO (lS 19)) (sP (lS 19)) by kernel_rfl]
  refine (s_if_f (k := 124) ht h).trans ?_
  kernel_rfl
end
end Mine
set_option maxRecDepth 100000
open PySem PySem.W PyProof.Rows
namespace Mine
noncomputable def apB (B : Bool) (L : List AV) (v : AV) : List AV := match B with
  | true => L ++ [v]
  | false => L
noncomputable def nilB : List AV → Bool
  | [] => true
  | _ :: _ => false
theorem apB_len {B : Bool} {L : List AV} {v : AV} {n : Nat} (h : L.length ≤ n) : (apB B L v).length ≤ n + 1 := by
  cases B
  · exact Nat.le_succ_of_le h
  · show (L ++ [v]).length ≤ n + 1
    rw [List.length_append, List.length_singleton]; omega
theorem apB_nil {B : Bool} {L : List AV} {v : AV} : nilB (apB B L v) = (nilB L && !B) := by
  cases B
  · show nilB L = (nilB L && true); rw [Bool.and_true]
  · cases L <;> rfl
theorem ivals_app {v : AV} {i : Int} (hv : ival v = some i) : ∀ {L : List AV} {l : List Int}, ivals L = some l → ivals (L ++ [v]) = some (l ++ [i])
  | [], l, h => by
    cases h
    show (match ival v with
      | some i => match ivals [] with
        | some l => some (i :: l)
        | none => none
      | none => none) = _
    rw [hv]; rfl
  | a :: L, l, h => by
    have hu : ivals (a :: L) = (match ival a with
      | some i => match ivals L with
        | some l => some (i :: l)
        | none => none
      | none => none) := rfl
    have hu2 : ivals (a :: L ++ [v]) = (match ival a with
      | some i => match ivals (L ++ [v]) with
        | some l => some (i :: l)
        | none => none
      | none => none) := rfl
    rw [hu] at h
    rw [hu2]
    split at h
    · split at h
      · rename_i l' hl
        cases h
        rw [ivals_app hv hl]; rfl
      · cases h
    · cases h
noncomputable def IsI (L : List AV) : Prop := ∃ l, ivals L = some l
theorem apB_I {B : Bool} {L : List AV} {i : Int} (h : IsI L) : IsI (apB B L (iA i)) := by
  cases B
  · exact h
  · obtain ⟨l, e⟩ := h
    exact ⟨_, ivals_app rfl e⟩
theorem cmp_nil {σ : H} {k k' : Nat} {L : List AV} (h1 : listAt σ k = some L) (h2 : listAt σ k' = some []) (h : IsI L) : cmpV .Eq (.obj k) (.obj k') σ = some (nilB L) := by
  obtain ⟨l, hl⟩ := h
  show (match listAt σ k with
      | some xs => match listAt σ k' with
        | some ys => match ivals xs with
          | some l => match ivals ys with
            | some l' => some (eqInts l l')
            | none => none
          | none => none
        | none => none
      | none => none) = _
  rw [h1, h2]
  simp only
  rw [hl]
  cases L with
  | nil => cases hl; rfl
  | cons a L =>
    have hu : ivals (a :: L) = (match ival a with
      | some i => match ivals L with
        | some l => some (i :: l)
        | none => none
      | none => none) := rfl
    rw [hu] at hl
    split at hl
    · split at hl
      · cases hl; rfl
      · cases hl
    · cases hl
section
variable {ns : List Int} {p : HQ} {x : B10} {j : LJ} {tot word : Option AV} {g : List AV} {d0 d1 d2 d3 d4 d5 d6 d7 d8 d9 : Int}
noncomputable abbrev frD (j : LJ) (tot word odd plain : Option AV) : LV := frC j tot word (some (.obj 280)) odd plain
noncomputable def h19 (p : HQ) (x : B10) (g : List AV) (d0 d1 d2 d3 d4 d5 d6 d7 d8 d9 : Int) : H := hC p x ++ [.list g, .list (dsL (ten d0 d1 d2 d3 d4 d5 d6 d7 d8 d9))]
noncomputable def oLC : Expr := sX (lS 20)
noncomputable def oG : Comprehension := nthG (eGs oLC) 0
noncomputable def cO (v : Option AV) : AF := ⟨(eSc oLC).names, [none, v, none, some (.obj 62)]⟩
noncomputable def odX : Nat → B10 → Bool
  | 0 => od0 | 1 => od1 | 2 => od2 | 3 => od3 | _ => od4
theorem o_turn (m q : Nat) (hq : q < 5) (v : Option AV) (L : List AV) (hL : L.length ≤ 100) : ev ns lawOrc (m + 111) (.co (cO v) (eL oLC) [oG] (.rng 0 5) q 281) (h19 p x g d0 d1 d2 d3 d4 d5 d6 d7 d8 d9 ++ [.list L]) =
    ev ns lawOrc (m + 110) (.co (cO (some (iA (q : Int)))) (eL oLC) [oG] (.rng 0 5) (q + 1) 281) (h19 p x g d0 d1 d2 d3 d4 d5 d6 d7 d8 d9 ++ [.list (apB (odX q x) L (iA (q : Int)))]) := by
  have h1 : foAs (ev ns lawOrc (m + 110)) (cO v) oG.target (.rng 0 5) q (h19 p x g d0 d1 d2 d3 d4 d5 d6 d7 d8 d9 ++ [.list L]) = some (.f (cO (some (iA (q : Int)))), h19 p x g d0 d1 d2 d3 d4 d5 d6 d7 d8 d9 ++ [.list L]) := by
    rcases q with _ | _ | _ | _ | _ | q
    all_goals first | (exfalso; omega; done) | kernel_rfl
  have ht : ev ns lawOrc (m + 109) (.t (cO (some (iA (q : Int)))) (nthE oG.ifs 0)) (h19 p x g d0 d1 d2 d3 d4 d5 d6 d7 d8 d9 ++ [.list L]) = some (.b (odX q x), h19 p x g d0 d1 d2 d3 d4 d5 d6 d7 d8 d9 ++ [.list L]) := by
    rcases q with _ | _ | _ | _ | _ | q
    all_goals first | (exfalso; omega; done) | kernel_rfl
  have h2 : ev ns lawOrc (m + 110) (.ifs (cO (some (iA (q : Int)))) oG.ifs) (h19 p x g d0 d1 d2 d3 d4 d5 d6 d7 d8 d9 ++ [.list L]) = some (.b (odX q x), h19 p x g d0 d1 d2 d3 d4 d5 d6 d7 d8 d9 ++ [.list L]) := by
    rw [show oG.ifs = [nthE oG.ifs 0] by kernel_rfl]
    exact ifs_one (k := m + 108) ht
  cases hB : odX q x with
  | true =>
    have h3 : ev ns lawOrc (m + 110) (.e (cO (some (iA (q : Int)))) (eL oLC)) (h19 p x g d0 d1 d2 d3 d4 d5 d6 d7 d8 d9 ++ [.list L]) = some (.v (iA (q : Int)), h19 p x g d0 d1 d2 d3 d4 d5 d6 d7 d8 d9 ++ [.list L]) := by kernel_rfl
    have hl : listAt (h19 p x g d0 d1 d2 d3 d4 d5 d6 d7 d8 d9 ++ [.list L]) 281 = some L := by kernel_rfl
    refine (co_yes (k := m + 110) (by kernel_rfl) h1 h2 hB h3 (append_ok hl (by omega))).trans ?_
    rw [show List.set (h19 p x g d0 d1 d2 d3 d4 d5 d6 d7 d8 d9 ++ [AO.list L]) 281 (AO.list (L ++ [iA (q : Int)])) = h19 p x g d0 d1 d2 d3 d4 d5 d6 d7 d8 d9 ++ [.list (L ++ [iA (q : Int)])] by kernel_rfl]
    rfl
  | false => exact co_no (k := m + 110) (by kernel_rfl) h1 h2 hB
noncomputable def oddO (o0 o1 o2 o3 o4 : Bool) : List AV := apB o4 (apB o3 (apB o2 (apB o1 (apB o0 [] (iA 0)) (iA 1)) (iA 2)) (iA 3)) (iA 4)
theorem seg20 : ev ns lawOrc 124 (.s (fr (frD j tot word none none)) (lS 20)) (h19 p x g d0 d1 d2 d3 d4 d5 d6 d7 d8 d9) = some (.fl (fr (frD j tot word (some (.obj 281)) none)) .next, h19 p x g d0 d1 d2 d3 d4 d5 d6 d7 d8 d9 ++ [.list (oddO (od0 x) (od1 x) (od2 x) (od3 x) (od4 x))]) := by
  rw [show lS 20 = .Assign [sT (lS 20)] (.ListComp (eL oLC) [oG] (eSc oLC) (eP oLC)) (sP (lS 20)) by kernel_rfl]
  have hco : ev ns lawOrc 123 (.co (compFrame (eSc oLC).names (fr (frD j tot word none none))) (eL oLC) [oG] (.rng 0 5) 0 281) (h19 p x g d0 d1 d2 d3 d4 d5 d6 d7 d8 d9 ++ [.list []]) = some (.f (cO (some (iA 4))), h19 p x g d0 d1 d2 d3 d4 d5 d6 d7 d8 d9 ++ [.list (oddO (od0 x) (od1 x) (od2 x) (od3 x) (od4 x))]) := by
    rw [show compFrame (eSc oLC).names (fr (frD j tot word none none)) = cO none by kernel_rfl]
    refine (o_turn 12 0 (by decide) none [] (by decide)).trans ?_
    refine (o_turn 11 1 (by decide) _ _ (Nat.le_trans (apB_len (n := 0) (by decide)) (by decide))).trans ?_
    refine (o_turn 10 2 (by decide) _ _ (Nat.le_trans (apB_len (apB_len (n := 0) (by decide))) (by decide))).trans ?_
    refine (o_turn 9 3 (by decide) _ _ (Nat.le_trans (apB_len (apB_len (apB_len (n := 0) (by decide)))) (by decide))).trans ?_
    refine (o_turn 8 4 (by decide) _ _ (Nat.le_trans (apB_len (apB_len (apB_len (apB_len (n := 0) (by decide))))) (by decide))).trans ?_
    exact co_end (k := 117) (by kernel_rfl) (by kernel_rfl)
  have hce : compE (ev ns lawOrc 123) (fr (frD j tot word none none)) (eL oLC) [oG] (eSc oLC) (h19 p x g d0 d1 d2 d3 d4 d5 d6 d7 d8 d9) = some (.v (.obj 281), h19 p x g d0 d1 d2 d3 d4 d5 d6 d7 d8 d9 ++ [.list (oddO (od0 x) (od1 x) (od2 x) (od3 x) (od4 x))]) :=
    comp_e (s := .rng 0 5) (σ1 := h19 p x g d0 d1 d2 d3 d4 d5 d6 d7 d8 d9) (by kernel_rfl) (by kernel_rfl) (by kernel_rfl) (by kernel_rfl) hco
  exact s_asg_lc (k := 123) (by kernel_rfl) hce (by kernel_rfl)
/-! plain -/
noncomputable def h20 (p : HQ) (x : B10) (g : List AV) (d0 d1 d2 d3 d4 d5 d6 d7 d8 d9 : Int) (od : List AV) : H := h19 p x g d0 d1 d2 d3 d4 d5 d6 d7 d8 d9 ++ [.list od]
noncomputable def pLC : Expr := sX (lS 21)
noncomputable def pG : Comprehension := nthG (eGs pLC) 0
noncomputable def cP (a b c : Option AV) : AF := ⟨(eSc pLC).names, [none, a, b, c, some (.obj 280), some (.obj 62)]⟩
variable {od : List AV}

theorem p_turn0 (m : Nat) (a b c : Option AV) (L : List AV) (hL : L.length ≤ 100) : ev ns lawOrc (m + 101) (.co (cP a b c) (eL pLC) [pG] (.enu 51) 0 282) (h20 p x g d0 d1 d2 d3 d4 d5 d6 d7 d8 d9 od ++ [.list L]) =
    ev ns lawOrc (m + 100) (.co (cP (some (iA 0)) (some (iA 0)) (some (iA 1))) (eL pLC) [pG] (.enu 51) 1 282) (h20 p x g d0 d1 d2 d3 d4 d5 d6 d7 d8 d9 od ++ [.list (apB (x.b0 && !(Int.fmod d0 2 == 1)) L (iA 0))]) := by
  let C := cP (some (iA 0)) (some (iA 0)) (some (iA 1))
  have h1 : foAs (ev ns lawOrc (m + 100)) (cP a b c) pG.target (.enu 51) 0 (h20 p x g d0 d1 d2 d3 d4 d5 d6 d7 d8 d9 od ++ [.list L]) = some (.f C, h20 p x g d0 d1 d2 d3 d4 d5 d6 d7 d8 d9 od ++ [.list L]) := by kernel_rfl
  have t0 : ev ns lawOrc (m + 97) (.t C (nthE (eAs (nthE pG.ifs 0)) 0)) (h20 p x g d0 d1 d2 d3 d4 d5 d6 d7 d8 d9 od ++ [.list L]) = some (.b x.b0, h20 p x g d0 d1 d2 d3 d4 d5 d6 d7 d8 d9 od ++ [.list L]) := by kernel_rfl
  have t1 : ev ns lawOrc (m + 96) (.t C (nthE (eAs (nthE pG.ifs 0)) 1)) (h20 p x g d0 d1 d2 d3 d4 d5 d6 d7 d8 d9 od ++ [.list L]) = some (.b (!(Int.fmod d0 2 == 1)), h20 p x g d0 d1 d2 d3 d4 d5 d6 d7 d8 d9 od ++ [.list L]) := by kernel_rfl
  have h2 : ev ns lawOrc (m + 100) (.ifs C pG.ifs) (h20 p x g d0 d1 d2 d3 d4 d5 d6 d7 d8 d9 od ++ [.list L]) = some (.b (x.b0 && !(Int.fmod d0 2 == 1)), h20 p x g d0 d1 d2 d3 d4 d5 d6 d7 d8 d9 od ++ [.list L]) := by
    rw [show pG.ifs = [.BoolOp .And [nthE (eAs (nthE pG.ifs 0)) 0, nthE (eAs (nthE pG.ifs 0)) 1] (eP (nthE pG.ifs 0))] by kernel_rfl]
    refine ifs_one (k := m + 98) ((t_boolop (k := m + 98)).trans ?_)
    cases hb : x.b0 with
    | false => exact ts_and_f (k := m + 97) t0 hb
    | true =>
      refine (ts_and_t (k := m + 97) t0 hb).trans ?_
      rw [Bool.true_and]
      cases hd : !(Int.fmod d0 2 == 1) with
      | false => exact ts_and_f (k := m + 96) t1 hd
      | true => exact (ts_and_t (k := m + 96) t1 hd).trans (ts_and_nil (k := m + 95))
  cases hB : (x.b0 && !(Int.fmod d0 2 == 1)) with
  | true =>
    have h3 : ev ns lawOrc (m + 100) (.e C (eL pLC)) (h20 p x g d0 d1 d2 d3 d4 d5 d6 d7 d8 d9 od ++ [.list L]) = some (.v (iA 0), h20 p x g d0 d1 d2 d3 d4 d5 d6 d7 d8 d9 od ++ [.list L]) := by kernel_rfl
    have hl : listAt (h20 p x g d0 d1 d2 d3 d4 d5 d6 d7 d8 d9 od ++ [.list L]) 282 = some L := by kernel_rfl
    refine (co_yes (k := m + 100) (by kernel_rfl) h1 h2 hB h3 (append_ok hl (by omega))).trans ?_
    rw [show List.set (h20 p x g d0 d1 d2 d3 d4 d5 d6 d7 d8 d9 od ++ [AO.list L]) 282 (AO.list (L ++ [iA 0])) = h20 p x g d0 d1 d2 d3 d4 d5 d6 d7 d8 d9 od ++ [.list (L ++ [iA 0])] by kernel_rfl]
    rfl
  | false => exact co_no (k := m + 100) (by kernel_rfl) h1 h2 hB

theorem p_turn1 (m : Nat) (a b c : Option AV) (L : List AV) (hL : L.length ≤ 100) : ev ns lawOrc (m + 101) (.co (cP a b c) (eL pLC) [pG] (.enu 51) 1 282) (h20 p x g d0 d1 d2 d3 d4 d5 d6 d7 d8 d9 od ++ [.list L]) =
    ev ns lawOrc (m + 100) (.co (cP (some (iA 1)) (some (iA 0)) (some (iA 2))) (eL pLC) [pG] (.enu 51) 2 282) (h20 p x g d0 d1 d2 d3 d4 d5 d6 d7 d8 d9 od ++ [.list (apB (x.b1 && !(Int.fmod d1 2 == 1)) L (iA 1))]) := by
  let C := cP (some (iA 1)) (some (iA 0)) (some (iA 2))
  have h1 : foAs (ev ns lawOrc (m + 100)) (cP a b c) pG.target (.enu 51) 1 (h20 p x g d0 d1 d2 d3 d4 d5 d6 d7 d8 d9 od ++ [.list L]) = some (.f C, h20 p x g d0 d1 d2 d3 d4 d5 d6 d7 d8 d9 od ++ [.list L]) := by kernel_rfl
  have t0 : ev ns lawOrc (m + 97) (.t C (nthE (eAs (nthE pG.ifs 0)) 0)) (h20 p x g d0 d1 d2 d3 d4 d5 d6 d7 d8 d9 od ++ [.list L]) = some (.b x.b1, h20 p x g d0 d1 d2 d3 d4 d5 d6 d7 d8 d9 od ++ [.list L]) := by kernel_rfl
  have t1 : ev ns lawOrc (m + 96) (.t C (nthE (eAs (nthE pG.ifs 0)) 1)) (h20 p x g d0 d1 d2 d3 d4 d5 d6 d7 d8 d9 od ++ [.list L]) = some (.b (!(Int.fmod d1 2 == 1)), h20 p x g d0 d1 d2 d3 d4 d5 d6 d7 d8 d9 od ++ [.list L]) := by kernel_rfl
  have h2 : ev ns lawOrc (m + 100) (.ifs C pG.ifs) (h20 p x g d0 d1 d2 d3 d4 d5 d6 d7 d8 d9 od ++ [.list L]) = some (.b (x.b1 && !(Int.fmod d1 2 == 1)), h20 p x g d0 d1 d2 d3 d4 d5 d6 d7 d8 d9 od ++ [.list L]) := by
    rw [show pG.ifs = [.BoolOp .And [nthE (eAs (nthE pG.ifs 0)) 0, nthE (eAs (nthE pG.ifs 0)) 1] (eP (nthE pG.ifs 0))] by kernel_rfl]
    refine ifs_one (k := m + 98) ((t_boolop (k := m + 98)).trans ?_)
    cases hb : x.b1 with
    | false => exact ts_and_f (k := m + 97) t0 hb
    | true =>
      refine (ts_and_t (k := m + 97) t0 hb).trans ?_
      rw [Bool.true_and]
      cases hd : !(Int.fmod d1 2 == 1) with
      | false => exact ts_and_f (k := m + 96) t1 hd
      | true => exact (ts_and_t (k := m + 96) t1 hd).trans (ts_and_nil (k := m + 95))
  cases hB : (x.b1 && !(Int.fmod d1 2 == 1)) with
  | true =>
    have h3 : ev ns lawOrc (m + 100) (.e C (eL pLC)) (h20 p x g d0 d1 d2 d3 d4 d5 d6 d7 d8 d9 od ++ [.list L]) = some (.v (iA 1), h20 p x g d0 d1 d2 d3 d4 d5 d6 d7 d8 d9 od ++ [.list L]) := by kernel_rfl
    have hl : listAt (h20 p x g d0 d1 d2 d3 d4 d5 d6 d7 d8 d9 od ++ [.list L]) 282 = some L := by kernel_rfl
    refine (co_yes (k := m + 100) (by kernel_rfl) h1 h2 hB h3 (append_ok hl (by omega))).trans ?_
    rw [show List.set (h20 p x g d0 d1 d2 d3 d4 d5 d6 d7 d8 d9 od ++ [AO.list L]) 282 (AO.list (L ++ [iA 1])) = h20 p x g d0 d1 d2 d3 d4 d5 d6 d7 d8 d9 od ++ [.list (L ++ [iA 1])] by kernel_rfl]
    rfl
  | false => exact co_no (k := m + 100) (by kernel_rfl) h1 h2 hB

theorem p_turn2 (m : Nat) (a b c : Option AV) (L : List AV) (hL : L.length ≤ 100) : ev ns lawOrc (m + 101) (.co (cP a b c) (eL pLC) [pG] (.enu 51) 2 282) (h20 p x g d0 d1 d2 d3 d4 d5 d6 d7 d8 d9 od ++ [.list L]) =
    ev ns lawOrc (m + 100) (.co (cP (some (iA 2)) (some (iA 0)) (some (iA 3))) (eL pLC) [pG] (.enu 51) 3 282) (h20 p x g d0 d1 d2 d3 d4 d5 d6 d7 d8 d9 od ++ [.list (apB (x.b2 && !(Int.fmod d2 2 == 1)) L (iA 2))]) := by
  let C := cP (some (iA 2)) (some (iA 0)) (some (iA 3))
  have h1 : foAs (ev ns lawOrc (m + 100)) (cP a b c) pG.target (.enu 51) 2 (h20 p x g d0 d1 d2 d3 d4 d5 d6 d7 d8 d9 od ++ [.list L]) = some (.f C, h20 p x g d0 d1 d2 d3 d4 d5 d6 d7 d8 d9 od ++ [.list L]) := by kernel_rfl
  have t0 : ev ns lawOrc (m + 97) (.t C (nthE (eAs (nthE pG.ifs 0)) 0)) (h20 p x g d0 d1 d2 d3 d4 d5 d6 d7 d8 d9 od ++ [.list L]) = some (.b x.b2, h20 p x g d0 d1 d2 d3 d4 d5 d6 d7 d8 d9 od ++ [.list L]) := by kernel_rfl
  have t1 : ev ns lawOrc (m + 96) (.t C (nthE (eAs (nthE pG.ifs 0)) 1)) (h20 p x g d0 d1 d2 d3 d4 d5 d6 d7 d8 d9 od ++ [.list L]) = some (.b (!(Int.fmod d2 2 == 1)), h20 p x g d0 d1 d2 d3 d4 d5 d6 d7 d8 d9 od ++ [.list L]) := by kernel_rfl
  have h2 : ev ns lawOrc (m + 100) (.ifs C pG.ifs) (h20 p x g d0 d1 d2 d3 d4 d5 d6 d7 d8 d9 od ++ [.list L]) = some (.b (x.b2 && !(Int.fmod d2 2 == 1)), h20 p x g d0 d1 d2 d3 d4 d5 d6 d7 d8 d9 od ++ [.list L]) := by
    rw [show pG.ifs = [.BoolOp .And [nthE (eAs (nthE pG.ifs 0)) 0, nthE (eAs (nthE pG.ifs 0)) 1] (eP (nthE pG.ifs 0))] by kernel_rfl]
    refine ifs_one (k := m + 98) ((t_boolop (k := m + 98)).trans ?_)
    cases hb : x.b2 with
    | false => exact ts_and_f (k := m + 97) t0 hb
    | true =>
      refine (ts_and_t (k := m + 97) t0 hb).trans ?_
      rw [Bool.true_and]
      cases hd : !(Int.fmod d2 2 == 1) with
      | false => exact ts_and_f (k := m + 96) t1 hd
      | true => exact (ts_and_t (k := m + 96) t1 hd).trans (ts_and_nil (k := m + 95))
  cases hB : (x.b2 && !(Int.fmod d2 2 == 1)) with
  | true =>
    have h3 : ev ns lawOrc (m + 100) (.e C (eL pLC)) (h20 p x g d0 d1 d2 d3 d4 d5 d6 d7 d8 d9 od ++ [.list L]) = some (.v (iA 2), h20 p x g d0 d1 d2 d3 d4 d5 d6 d7 d8 d9 od ++ [.list L]) := by kernel_rfl
    have hl : listAt (h20 p x g d0 d1 d2 d3 d4 d5 d6 d7 d8 d9 od ++ [.list L]) 282 = some L := by kernel_rfl
    refine (co_yes (k := m + 100) (by kernel_rfl) h1 h2 hB h3 (append_ok hl (by omega))).trans ?_
    rw [show List.set (h20 p x g d0 d1 d2 d3 d4 d5 d6 d7 d8 d9 od ++ [AO.list L]) 282 (AO.list (L ++ [iA 2])) = h20 p x g d0 d1 d2 d3 d4 d5 d6 d7 d8 d9 od ++ [.list (L ++ [iA 2])] by kernel_rfl]
    rfl
  | false => exact co_no (k := m + 100) (by kernel_rfl) h1 h2 hB

theorem p_turn3 (m : Nat) (a b c : Option AV) (L : List AV) (hL : L.length ≤ 100) : ev ns lawOrc (m + 101) (.co (cP a b c) (eL pLC) [pG] (.enu 51) 3 282) (h20 p x g d0 d1 d2 d3 d4 d5 d6 d7 d8 d9 od ++ [.list L]) =
    ev ns lawOrc (m + 100) (.co (cP (some (iA 3)) (some (iA 0)) (some (iA 4))) (eL pLC) [pG] (.enu 51) 4 282) (h20 p x g d0 d1 d2 d3 d4 d5 d6 d7 d8 d9 od ++ [.list (apB (x.b3 && !(Int.fmod d3 2 == 1)) L (iA 3))]) := by
  let C := cP (some (iA 3)) (some (iA 0)) (some (iA 4))
  have h1 : foAs (ev ns lawOrc (m + 100)) (cP a b c) pG.target (.enu 51) 3 (h20 p x g d0 d1 d2 d3 d4 d5 d6 d7 d8 d9 od ++ [.list L]) = some (.f C, h20 p x g d0 d1 d2 d3 d4 d5 d6 d7 d8 d9 od ++ [.list L]) := by kernel_rfl
  have t0 : ev ns lawOrc (m + 97) (.t C (nthE (eAs (nthE pG.ifs 0)) 0)) (h20 p x g d0 d1 d2 d3 d4 d5 d6 d7 d8 d9 od ++ [.list L]) = some (.b x.b3, h20 p x g d0 d1 d2 d3 d4 d5 d6 d7 d8 d9 od ++ [.list L]) := by kernel_rfl
  have t1 : ev ns lawOrc (m + 96) (.t C (nthE (eAs (nthE pG.ifs 0)) 1)) (h20 p x g d0 d1 d2 d3 d4 d5 d6 d7 d8 d9 od ++ [.list L]) = some (.b (!(Int.fmod d3 2 == 1)), h20 p x g d0 d1 d2 d3 d4 d5 d6 d7 d8 d9 od ++ [.list L]) := by kernel_rfl
  have h2 : ev ns lawOrc (m + 100) (.ifs C pG.ifs) (h20 p x g d0 d1 d2 d3 d4 d5 d6 d7 d8 d9 od ++ [.list L]) = some (.b (x.b3 && !(Int.fmod d3 2 == 1)), h20 p x g d0 d1 d2 d3 d4 d5 d6 d7 d8 d9 od ++ [.list L]) := by
    rw [show pG.ifs = [.BoolOp .And [nthE (eAs (nthE pG.ifs 0)) 0, nthE (eAs (nthE pG.ifs 0)) 1] (eP (nthE pG.ifs 0))] by kernel_rfl]
    refine ifs_one (k := m + 98) ((t_boolop (k := m + 98)).trans ?_)
    cases hb : x.b3 with
    | false => exact ts_and_f (k := m + 97) t0 hb
    | true =>
      refine (ts_and_t (k := m + 97) t0 hb).trans ?_
      rw [Bool.true_and]
      cases hd : !(Int.fmod d3 2 == 1) with
      | false => exact ts_and_f (k := m + 96) t1 hd
      | true => exact (ts_and_t (k := m + 96) t1 hd).trans (ts_and_nil (k := m + 95))
  cases hB : (x.b3 && !(Int.fmod d3 2 == 1)) with
  | true =>
    have h3 : ev ns lawOrc (m + 100) (.e C (eL pLC)) (h20 p x g d0 d1 d2 d3 d4 d5 d6 d7 d8 d9 od ++ [.list L]) = some (.v (iA 3), h20 p x g d0 d1 d2 d3 d4 d5 d6 d7 d8 d9 od ++ [.list L]) := by kernel_rfl
    have hl : listAt (h20 p x g d0 d1 d2 d3 d4 d5 d6 d7 d8 d9 od ++ [.list L]) 282 = some L := by kernel_rfl
    refine (co_yes (k := m + 100) (by kernel_rfl) h1 h2 hB h3 (append_ok hl (by omega))).trans ?_
    rw [show List.set (h20 p x g d0 d1 d2 d3 d4 d5 d6 d7 d8 d9 od ++ [AO.list L]) 282 (AO.list (L ++ [iA 3])) = h20 p x g d0 d1 d2 d3 d4 d5 d6 d7 d8 d9 od ++ [.list (L ++ [iA 3])] by kernel_rfl]
    rfl
  | false => exact co_no (k := m + 100) (by kernel_rfl) h1 h2 hB

theorem p_turn4 (m : Nat) (a b c : Option AV) (L : List AV) (hL : L.length ≤ 100) : ev ns lawOrc (m + 101) (.co (cP a b c) (eL pLC) [pG] (.enu 51) 4 282) (h20 p x g d0 d1 d2 d3 d4 d5 d6 d7 d8 d9 od ++ [.list L]) =
    ev ns lawOrc (m + 100) (.co (cP (some (iA 4)) (some (iA 1)) (some (iA 2))) (eL pLC) [pG] (.enu 51) 5 282) (h20 p x g d0 d1 d2 d3 d4 d5 d6 d7 d8 d9 od ++ [.list (apB (x.b4 && !(Int.fmod d4 2 == 1)) L (iA 4))]) := by
  let C := cP (some (iA 4)) (some (iA 1)) (some (iA 2))
  have h1 : foAs (ev ns lawOrc (m + 100)) (cP a b c) pG.target (.enu 51) 4 (h20 p x g d0 d1 d2 d3 d4 d5 d6 d7 d8 d9 od ++ [.list L]) = some (.f C, h20 p x g d0 d1 d2 d3 d4 d5 d6 d7 d8 d9 od ++ [.list L]) := by kernel_rfl
  have t0 : ev ns lawOrc (m + 97) (.t C (nthE (eAs (nthE pG.ifs 0)) 0)) (h20 p x g d0 d1 d2 d3 d4 d5 d6 d7 d8 d9 od ++ [.list L]) = some (.b x.b4, h20 p x g d0 d1 d2 d3 d4 d5 d6 d7 d8 d9 od ++ [.list L]) := by kernel_rfl
  have t1 : ev ns lawOrc (m + 96) (.t C (nthE (eAs (nthE pG.ifs 0)) 1)) (h20 p x g d0 d1 d2 d3 d4 d5 d6 d7 d8 d9 od ++ [.list L]) = some (.b (!(Int.fmod d4 2 == 1)), h20 p x g d0 d1 d2 d3 d4 d5 d6 d7 d8 d9 od ++ [.list L]) := by kernel_rfl
  have h2 : ev ns lawOrc (m + 100) (.ifs C pG.ifs) (h20 p x g d0 d1 d2 d3 d4 d5 d6 d7 d8 d9 od ++ [.list L]) = some (.b (x.b4 && !(Int.fmod d4 2 == 1)), h20 p x g d0 d1 d2 d3 d4 d5 d6 d7 d8 d9 od ++ [.list L]) := by
    rw [show pG.ifs = [.BoolOp .And [nthE (eAs (nthE pG.ifs 0)) 0, nthE (eAs (nthE pG.ifs 0)) 1] (eP (nthE pG.ifs 0))] by kernel_rfl]
    refine ifs_one (k := m + 98) ((t_boolop (k := m + 98)).trans ?_)
    cases hb : x.b4 with
    | false => exact ts_and_f (k := m + 97) t0 hb
    | true =>
      refine (ts_and_t (k := m + 97) t0 hb).trans ?_
      rw [Bool.true_and]
      cases hd : !(Int.fmod d4 2 == 1) with
      | false => exact ts_and_f (k := m + 96) t1 hd
      | true => exact (ts_and_t (k := m + 96) t1 hd).trans (ts_and_nil (k := m + 95))
  cases hB : (x.b4 && !(Int.fmod d4 2 == 1)) with
  | true =>
    have h3 : ev ns lawOrc (m + 100) (.e C (eL pLC)) (h20 p x g d0 d1 d2 d3 d4 d5 d6 d7 d8 d9 od ++ [.list L]) = some (.v (iA 4), h20 p x g d0 d1 d2 d3 d4 d5 d6 d7 d8 d9 od ++ [.list L]) := by kernel_rfl
    have hl : listAt (h20 p x g d0 d1 d2 d3 d4 d5 d6 d7 d8 d9 od ++ [.list L]) 282 = some L := by kernel_rfl
    refine (co_yes (k := m + 100) (by kernel_rfl) h1 h2 hB h3 (append_ok hl (by omega))).trans ?_
    rw [show List.set (h20 p x g d0 d1 d2 d3 d4 d5 d6 d7 d8 d9 od ++ [AO.list L]) 282 (AO.list (L ++ [iA 4])) = h20 p x g d0 d1 d2 d3 d4 d5 d6 d7 d8 d9 od ++ [.list (L ++ [iA 4])] by kernel_rfl]
    rfl
  | false => exact co_no (k := m + 100) (by kernel_rfl) h1 h2 hB

theorem p_turn5 (m : Nat) (a b c : Option AV) (L : List AV) (hL : L.length ≤ 100) : ev ns lawOrc (m + 101) (.co (cP a b c) (eL pLC) [pG] (.enu 51) 5 282) (h20 p x g d0 d1 d2 d3 d4 d5 d6 d7 d8 d9 od ++ [.list L]) =
    ev ns lawOrc (m + 100) (.co (cP (some (iA 5)) (some (iA 1)) (some (iA 3))) (eL pLC) [pG] (.enu 51) 6 282) (h20 p x g d0 d1 d2 d3 d4 d5 d6 d7 d8 d9 od ++ [.list (apB (x.b5 && !(Int.fmod d5 2 == 1)) L (iA 5))]) := by
  let C := cP (some (iA 5)) (some (iA 1)) (some (iA 3))
  have h1 : foAs (ev ns lawOrc (m + 100)) (cP a b c) pG.target (.enu 51) 5 (h20 p x g d0 d1 d2 d3 d4 d5 d6 d7 d8 d9 od ++ [.list L]) = some (.f C, h20 p x g d0 d1 d2 d3 d4 d5 d6 d7 d8 d9 od ++ [.list L]) := by kernel_rfl
  have t0 : ev ns lawOrc (m + 97) (.t C (nthE (eAs (nthE pG.ifs 0)) 0)) (h20 p x g d0 d1 d2 d3 d4 d5 d6 d7 d8 d9 od ++ [.list L]) = some (.b x.b5, h20 p x g d0 d1 d2 d3 d4 d5 d6 d7 d8 d9 od ++ [.list L]) := by kernel_rfl
  have t1 : ev ns lawOrc (m + 96) (.t C (nthE (eAs (nthE pG.ifs 0)) 1)) (h20 p x g d0 d1 d2 d3 d4 d5 d6 d7 d8 d9 od ++ [.list L]) = some (.b (!(Int.fmod d5 2 == 1)), h20 p x g d0 d1 d2 d3 d4 d5 d6 d7 d8 d9 od ++ [.list L]) := by kernel_rfl
  have h2 : ev ns lawOrc (m + 100) (.ifs C pG.ifs) (h20 p x g d0 d1 d2 d3 d4 d5 d6 d7 d8 d9 od ++ [.list L]) = some (.b (x.b5 && !(Int.fmod d5 2 == 1)), h20 p x g d0 d1 d2 d3 d4 d5 d6 d7 d8 d9 od ++ [.list L]) := by
    rw [show pG.ifs = [.BoolOp .And [nthE (eAs (nthE pG.ifs 0)) 0, nthE (eAs (nthE pG.ifs 0)) 1] (eP (nthE pG.ifs 0))] by kernel_rfl]
    refine ifs_one (k := m + 98) ((t_boolop (k := m + 98)).trans ?_)
    cases hb : x.b5 with
    | false => exact ts_and_f (k := m + 97) t0 hb
    | true =>
      refine (ts_and_t (k := m + 97) t0 hb).trans ?_
      rw [Bool.true_and]
      cases hd : !(Int.fmod d5 2 == 1) with
      | false => exact ts_and_f (k := m + 96) t1 hd
      | true => exact (ts_and_t (k := m + 96) t1 hd).trans (ts_and_nil (k := m + 95))
  cases hB : (x.b5 && !(Int.fmod d5 2 == 1)) with
  | true =>
    have h3 : ev ns lawOrc (m + 100) (.e C (eL pLC)) (h20 p x g d0 d1 d2 d3 d4 d5 d6 d7 d8 d9 od ++ [.list L]) = some (.v (iA 5), h20 p x g d0 d1 d2 d3 d4 d5 d6 d7 d8 d9 od ++ [.list L]) := by kernel_rfl
    have hl : listAt (h20 p x g d0 d1 d2 d3 d4 d5 d6 d7 d8 d9 od ++ [.list L]) 282 = some L := by kernel_rfl
    refine (co_yes (k := m + 100) (by kernel_rfl) h1 h2 hB h3 (append_ok hl (by omega))).trans ?_
    rw [show List.set (h20 p x g d0 d1 d2 d3 d4 d5 d6 d7 d8 d9 od ++ [AO.list L]) 282 (AO.list (L ++ [iA 5])) = h20 p x g d0 d1 d2 d3 d4 d5 d6 d7 d8 d9 od ++ [.list (L ++ [iA 5])] by kernel_rfl]
    rfl
  | false => exact co_no (k := m + 100) (by kernel_rfl) h1 h2 hB

theorem p_turn6 (m : Nat) (a b c : Option AV) (L : List AV) (hL : L.length ≤ 100) : ev ns lawOrc (m + 101) (.co (cP a b c) (eL pLC) [pG] (.enu 51) 6 282) (h20 p x g d0 d1 d2 d3 d4 d5 d6 d7 d8 d9 od ++ [.list L]) =
    ev ns lawOrc (m + 100) (.co (cP (some (iA 6)) (some (iA 1)) (some (iA 4))) (eL pLC) [pG] (.enu 51) 7 282) (h20 p x g d0 d1 d2 d3 d4 d5 d6 d7 d8 d9 od ++ [.list (apB (x.b6 && !(Int.fmod d6 2 == 1)) L (iA 6))]) := by
  let C := cP (some (iA 6)) (some (iA 1)) (some (iA 4))
  have h1 : foAs (ev ns lawOrc (m + 100)) (cP a b c) pG.target (.enu 51) 6 (h20 p x g d0 d1 d2 d3 d4 d5 d6 d7 d8 d9 od ++ [.list L]) = some (.f C, h20 p x g d0 d1 d2 d3 d4 d5 d6 d7 d8 d9 od ++ [.list L]) := by kernel_rfl
  have t0 : ev ns lawOrc (m + 97) (.t C (nthE (eAs (nthE pG.ifs 0)) 0)) (h20 p x g d0 d1 d2 d3 d4 d5 d6 d7 d8 d9 od ++ [.list L]) = some (.b x.b6, h20 p x g d0 d1 d2 d3 d4 d5 d6 d7 d8 d9 od ++ [.list L]) := by kernel_rfl
  have t1 : ev ns lawOrc (m + 96) (.t C (nthE (eAs (nthE pG.ifs 0)) 1)) (h20 p x g d0 d1 d2 d3 d4 d5 d6 d7 d8 d9 od ++ [.list L]) = some (.b (!(Int.fmod d6 2 == 1)), h20 p x g d0 d1 d2 d3 d4 d5 d6 d7 d8 d9 od ++ [.list L]) := by kernel_rfl
  have h2 : ev ns lawOrc (m + 100) (.ifs C pG.ifs) (h20 p x g d0 d1 d2 d3 d4 d5 d6 d7 d8 d9 od ++ [.list L]) = some (.b (x.b6 && !(Int.fmod d6 2 == 1)), h20 p x g d0 d1 d2 d3 d4 d5 d6 d7 d8 d9 od ++ [.list L]) := by
    rw [show pG.ifs = [.BoolOp .And [nthE (eAs (nthE pG.ifs 0)) 0, nthE (eAs (nthE pG.ifs 0)) 1] (eP (nthE pG.ifs 0))] by kernel_rfl]
    refine ifs_one (k := m + 98) ((t_boolop (k := m + 98)).trans ?_)
    cases hb : x.b6 with
    | false => exact ts_and_f (k := m + 97) t0 hb
    | true =>
      refine (ts_and_t (k := m + 97) t0 hb).trans ?_
      rw [Bool.true_and]
      cases hd : !(Int.fmod d6 2 == 1) with
      | false => exact ts_and_f (k := m + 96) t1 hd
      | true => exact (ts_and_t (k := m + 96) t1 hd).trans (ts_and_nil (k := m + 95))
  cases hB : (x.b6 && !(Int.fmod d6 2 == 1)) with
  | true =>
    have h3 : ev ns lawOrc (m + 100) (.e C (eL pLC)) (h20 p x g d0 d1 d2 d3 d4 d5 d6 d7 d8 d9 od ++ [.list L]) = some (.v (iA 6), h20 p x g d0 d1 d2 d3 d4 d5 d6 d7 d8 d9 od ++ [.list L]) := by kernel_rfl
    have hl : listAt (h20 p x g d0 d1 d2 d3 d4 d5 d6 d7 d8 d9 od ++ [.list L]) 282 = some L := by kernel_rfl
    refine (co_yes (k := m + 100) (by kernel_rfl) h1 h2 hB h3 (append_ok hl (by omega))).trans ?_
    rw [show List.set (h20 p x g d0 d1 d2 d3 d4 d5 d6 d7 d8 d9 od ++ [AO.list L]) 282 (AO.list (L ++ [iA 6])) = h20 p x g d0 d1 d2 d3 d4 d5 d6 d7 d8 d9 od ++ [.list (L ++ [iA 6])] by kernel_rfl]
    rfl
  | false => exact co_no (k := m + 100) (by kernel_rfl) h1 h2 hB

theorem p_turn7 (m : Nat) (a b c : Option AV) (L : List AV) (hL : L.length ≤ 100) : ev ns lawOrc (m + 101) (.co (cP a b c) (eL pLC) [pG] (.enu 51) 7 282) (h20 p x g d0 d1 d2 d3 d4 d5 d6 d7 d8 d9 od ++ [.list L]) =
    ev ns lawOrc (m + 100) (.co (cP (some (iA 7)) (some (iA 2)) (some (iA 3))) (eL pLC) [pG] (.enu 51) 8 282) (h20 p x g d0 d1 d2 d3 d4 d5 d6 d7 d8 d9 od ++ [.list (apB (x.b7 && !(Int.fmod d7 2 == 1)) L (iA 7))]) := by
  let C := cP (some (iA 7)) (some (iA 2)) (some (iA 3))
  have h1 : foAs (ev ns lawOrc (m + 100)) (cP a b c) pG.target (.enu 51) 7 (h20 p x g d0 d1 d2 d3 d4 d5 d6 d7 d8 d9 od ++ [.list L]) = some (.f C, h20 p x g d0 d1 d2 d3 d4 d5 d6 d7 d8 d9 od ++ [.list L]) := by kernel_rfl
  have t0 : ev ns lawOrc (m + 97) (.t C (nthE (eAs (nthE pG.ifs 0)) 0)) (h20 p x g d0 d1 d2 d3 d4 d5 d6 d7 d8 d9 od ++ [.list L]) = some (.b x.b7, h20 p x g d0 d1 d2 d3 d4 d5 d6 d7 d8 d9 od ++ [.list L]) := by kernel_rfl
  have t1 : ev ns lawOrc (m + 96) (.t C (nthE (eAs (nthE pG.ifs 0)) 1)) (h20 p x g d0 d1 d2 d3 d4 d5 d6 d7 d8 d9 od ++ [.list L]) = some (.b (!(Int.fmod d7 2 == 1)), h20 p x g d0 d1 d2 d3 d4 d5 d6 d7 d8 d9 od ++ [.list L]) := by kernel_rfl
  have h2 : ev ns lawOrc (m + 100) (.ifs C pG.ifs) (h20 p x g d0 d1 d2 d3 d4 d5 d6 d7 d8 d9 od ++ [.list L]) = some (.b (x.b7 && !(Int.fmod d7 2 == 1)), h20 p x g d0 d1 d2 d3 d4 d5 d6 d7 d8 d9 od ++ [.list L]) := by
    rw [show pG.ifs = [.BoolOp .And [nthE (eAs (nthE pG.ifs 0)) 0, nthE (eAs (nthE pG.ifs 0)) 1] (eP (nthE pG.ifs 0))] by kernel_rfl]
    refine ifs_one (k := m + 98) ((t_boolop (k := m + 98)).trans ?_)
    cases hb : x.b7 with
    | false => exact ts_and_f (k := m + 97) t0 hb
    | true =>
      refine (ts_and_t (k := m + 97) t0 hb).trans ?_
      rw [Bool.true_and]
      cases hd : !(Int.fmod d7 2 == 1) with
      | false => exact ts_and_f (k := m + 96) t1 hd
      | true => exact (ts_and_t (k := m + 96) t1 hd).trans (ts_and_nil (k := m + 95))
  cases hB : (x.b7 && !(Int.fmod d7 2 == 1)) with
  | true =>
    have h3 : ev ns lawOrc (m + 100) (.e C (eL pLC)) (h20 p x g d0 d1 d2 d3 d4 d5 d6 d7 d8 d9 od ++ [.list L]) = some (.v (iA 7), h20 p x g d0 d1 d2 d3 d4 d5 d6 d7 d8 d9 od ++ [.list L]) := by kernel_rfl
    have hl : listAt (h20 p x g d0 d1 d2 d3 d4 d5 d6 d7 d8 d9 od ++ [.list L]) 282 = some L := by kernel_rfl
    refine (co_yes (k := m + 100) (by kernel_rfl) h1 h2 hB h3 (append_ok hl (by omega))).trans ?_
    rw [show List.set (h20 p x g d0 d1 d2 d3 d4 d5 d6 d7 d8 d9 od ++ [AO.list L]) 282 (AO.list (L ++ [iA 7])) = h20 p x g d0 d1 d2 d3 d4 d5 d6 d7 d8 d9 od ++ [.list (L ++ [iA 7])] by kernel_rfl]
    rfl
  | false => exact co_no (k := m + 100) (by kernel_rfl) h1 h2 hB

theorem p_turn8 (m : Nat) (a b c : Option AV) (L : List AV) (hL : L.length ≤ 100) : ev ns lawOrc (m + 101) (.co (cP a b c) (eL pLC) [pG] (.enu 51) 8 282) (h20 p x g d0 d1 d2 d3 d4 d5 d6 d7 d8 d9 od ++ [.list L]) =
    ev ns lawOrc (m + 100) (.co (cP (some (iA 8)) (some (iA 2)) (some (iA 4))) (eL pLC) [pG] (.enu 51) 9 282) (h20 p x g d0 d1 d2 d3 d4 d5 d6 d7 d8 d9 od ++ [.list (apB (x.b8 && !(Int.fmod d8 2 == 1)) L (iA 8))]) := by
  let C := cP (some (iA 8)) (some (iA 2)) (some (iA 4))
  have h1 : foAs (ev ns lawOrc (m + 100)) (cP a b c) pG.target (.enu 51) 8 (h20 p x g d0 d1 d2 d3 d4 d5 d6 d7 d8 d9 od ++ [.list L]) = some (.f C, h20 p x g d0 d1 d2 d3 d4 d5 d6 d7 d8 d9 od ++ [.list L]) := by kernel_rfl
  have t0 : ev ns lawOrc (m + 97) (.t C (nthE (eAs (nthE pG.ifs 0)) 0)) (h20 p x g d0 d1 d2 d3 d4 d5 d6 d7 d8 d9 od ++ [.list L]) = some (.b x.b8, h20 p x g d0 d1 d2 d3 d4 d5 d6 d7 d8 d9 od ++ [.list L]) := by kernel_rfl
  have t1 : ev ns lawOrc (m + 96) (.t C (nthE (eAs (nthE pG.ifs 0)) 1)) (h20 p x g d0 d1 d2 d3 d4 d5 d6 d7 d8 d9 od ++ [.list L]) = some (.b (!(Int.fmod d8 2 == 1)), h20 p x g d0 d1 d2 d3 d4 d5 d6 d7 d8 d9 od ++ [.list L]) := by kernel_rfl
  have h2 : ev ns lawOrc (m + 100) (.ifs C pG.ifs) (h20 p x g d0 d1 d2 d3 d4 d5 d6 d7 d8 d9 od ++ [.list L]) = some (.b (x.b8 && !(Int.fmod d8 2 == 1)), h20 p x g d0 d1 d2 d3 d4 d5 d6 d7 d8 d9 od ++ [.list L]) := by
    rw [show pG.ifs = [.BoolOp .And [nthE (eAs (nthE pG.ifs 0)) 0, nthE (eAs (nthE pG.ifs 0)) 1] (eP (nthE pG.ifs 0))] by kernel_rfl]
    refine ifs_one (k := m + 98) ((t_boolop (k := m + 98)).trans ?_)
    cases hb : x.b8 with
    | false => exact ts_and_f (k := m + 97) t0 hb
    | true =>
      refine (ts_and_t (k := m + 97) t0 hb).trans ?_
      rw [Bool.true_and]
      cases hd : !(Int.fmod d8 2 == 1) with
      | false => exact ts_and_f (k := m + 96) t1 hd
      | true => exact (ts_and_t (k := m + 96) t1 hd).trans (ts_and_nil (k := m + 95))
  cases hB : (x.b8 && !(Int.fmod d8 2 == 1)) with
  | true =>
    have h3 : ev ns lawOrc (m + 100) (.e C (eL pLC)) (h20 p x g d0 d1 d2 d3 d4 d5 d6 d7 d8 d9 od ++ [.list L]) = some (.v (iA 8), h20 p x g d0 d1 d2 d3 d4 d5 d6 d7 d8 d9 od ++ [.list L]) := by kernel_rfl
    have hl : listAt (h20 p x g d0 d1 d2 d3 d4 d5 d6 d7 d8 d9 od ++ [.list L]) 282 = some L := by kernel_rfl
    refine (co_yes (k := m + 100) (by kernel_rfl) h1 h2 hB h3 (append_ok hl (by omega))).trans ?_
    rw [show List.set (h20 p x g d0 d1 d2 d3 d4 d5 d6 d7 d8 d9 od ++ [AO.list L]) 282 (AO.list (L ++ [iA 8])) = h20 p x g d0 d1 d2 d3 d4 d5 d6 d7 d8 d9 od ++ [.list (L ++ [iA 8])] by kernel_rfl]
    rfl
  | false => exact co_no (k := m + 100) (by kernel_rfl) h1 h2 hB

theorem p_turn9 (m : Nat) (a b c : Option AV) (L : List AV) (hL : L.length ≤ 100) : ev ns lawOrc (m + 101) (.co (cP a b c) (eL pLC) [pG] (.enu 51) 9 282) (h20 p x g d0 d1 d2 d3 d4 d5 d6 d7 d8 d9 od ++ [.list L]) =
    ev ns lawOrc (m + 100) (.co (cP (some (iA 9)) (some (iA 3)) (some (iA 4))) (eL pLC) [pG] (.enu 51) 10 282) (h20 p x g d0 d1 d2 d3 d4 d5 d6 d7 d8 d9 od ++ [.list (apB (x.b9 && !(Int.fmod d9 2 == 1)) L (iA 9))]) := by
  let C := cP (some (iA 9)) (some (iA 3)) (some (iA 4))
  have h1 : foAs (ev ns lawOrc (m + 100)) (cP a b c) pG.target (.enu 51) 9 (h20 p x g d0 d1 d2 d3 d4 d5 d6 d7 d8 d9 od ++ [.list L]) = some (.f C, h20 p x g d0 d1 d2 d3 d4 d5 d6 d7 d8 d9 od ++ [.list L]) := by kernel_rfl
  have t0 : ev ns lawOrc (m + 97) (.t C (nthE (eAs (nthE pG.ifs 0)) 0)) (h20 p x g d0 d1 d2 d3 d4 d5 d6 d7 d8 d9 od ++ [.list L]) = some (.b x.b9, h20 p x g d0 d1 d2 d3 d4 d5 d6 d7 d8 d9 od ++ [.list L]) := by kernel_rfl
  have t1 : ev ns lawOrc (m + 96) (.t C (nthE (eAs (nthE pG.ifs 0)) 1)) (h20 p x g d0 d1 d2 d3 d4 d5 d6 d7 d8 d9 od ++ [.list L]) = some (.b (!(Int.fmod d9 2 == 1)), h20 p x g d0 d1 d2 d3 d4 d5 d6 d7 d8 d9 od ++ [.list L]) := by kernel_rfl
  have h2 : ev ns lawOrc (m + 100) (.ifs C pG.ifs) (h20 p x g d0 d1 d2 d3 d4 d5 d6 d7 d8 d9 od ++ [.list L]) = some (.b (x.b9 && !(Int.fmod d9 2 == 1)), h20 p x g d0 d1 d2 d3 d4 d5 d6 d7 d8 d9 od ++ [.list L]) := by
    rw [show pG.ifs = [.BoolOp .And [nthE (eAs (nthE pG.ifs 0)) 0, nthE (eAs (nthE pG.ifs 0)) 1] (eP (nthE pG.ifs 0))] by kernel_rfl]
    refine ifs_one (k := m + 98) ((t_boolop (k := m + 98)).trans ?_)
    cases hb : x.b9 with
    | false => exact ts_and_f (k := m + 97) t0 hb
    | true =>
      refine (ts_and_t (k := m + 97) t0 hb).trans ?_
      rw [Bool.true_and]
      cases hd : !(Int.fmod d9 2 == 1) with
      | false => exact ts_and_f (k := m + 96) t1 hd
      | true => exact (ts_and_t (k := m + 96) t1 hd).trans (ts_and_nil (k := m + 95))
  cases hB : (x.b9 && !(Int.fmod d9 2 == 1)) with
  | true =>
    have h3 : ev ns lawOrc (m + 100) (.e C (eL pLC)) (h20 p x g d0 d1 d2 d3 d4 d5 d6 d7 d8 d9 od ++ [.list L]) = some (.v (iA 9), h20 p x g d0 d1 d2 d3 d4 d5 d6 d7 d8 d9 od ++ [.list L]) := by kernel_rfl
    have hl : listAt (h20 p x g d0 d1 d2 d3 d4 d5 d6 d7 d8 d9 od ++ [.list L]) 282 = some L := by kernel_rfl
    refine (co_yes (k := m + 100) (by kernel_rfl) h1 h2 hB h3 (append_ok hl (by omega))).trans ?_
    rw [show List.set (h20 p x g d0 d1 d2 d3 d4 d5 d6 d7 d8 d9 od ++ [AO.list L]) 282 (AO.list (L ++ [iA 9])) = h20 p x g d0 d1 d2 d3 d4 d5 d6 d7 d8 d9 od ++ [.list (L ++ [iA 9])] by kernel_rfl]
    rfl
  | false => exact co_no (k := m + 100) (by kernel_rfl) h1 h2 hB

noncomputable def plainX0 (x : B10) (d0 d1 d2 d3 d4 d5 d6 d7 d8 d9 : Int) : List AV := (apB (x.b9 && !(Int.fmod d9 2 == 1)) (apB (x.b8 && !(Int.fmod d8 2 == 1)) (apB (x.b7 && !(Int.fmod d7 2 == 1)) (apB (x.b6 && !(Int.fmod d6 2 == 1)) (apB (x.b5 && !(Int.fmod d5 2 == 1)) (apB (x.b4 && !(Int.fmod d4 2 == 1)) (apB (x.b3 && !(Int.fmod d3 2 == 1)) (apB (x.b2 && !(Int.fmod d2 2 == 1)) (apB (x.b1 && !(Int.fmod d1 2 == 1)) (apB (x.b0 && !(Int.fmod d0 2 == 1)) [] (iA 0)) (iA 1)) (iA 2)) (iA 3)) (iA 4)) (iA 5)) (iA 6)) (iA 7)) (iA 8)) (iA 9))
theorem seg21 : ev ns lawOrc 123 (.s (fr (frD j tot word (some (.obj 281)) none)) (lS 21)) (h20 p x g d0 d1 d2 d3 d4 d5 d6 d7 d8 d9 od) = some (.fl (fr (frD j tot word (some (.obj 281)) (some (.obj 282)))) .next, h20 p x g d0 d1 d2 d3 d4 d5 d6 d7 d8 d9 od ++ [.list (plainX0 x d0 d1 d2 d3 d4 d5 d6 d7 d8 d9)]) := by
  rw [show lS 21 = .Assign [sT (lS 21)] (.ListComp (eL pLC) [pG] (eSc pLC) (eP pLC)) (sP (lS 21)) by kernel_rfl]
  have hco : ev ns lawOrc 122 (.co (compFrame (eSc pLC).names (fr (frD j tot word (some (.obj 281)) none))) (eL pLC) [pG] (.enu 51) 0 282) (h20 p x g d0 d1 d2 d3 d4 d5 d6 d7 d8 d9 od ++ [.list []]) = some (.f (cP (some (iA 9)) (some (iA 3)) (some (iA 4))), h20 p x g d0 d1 d2 d3 d4 d5 d6 d7 d8 d9 od ++ [.list (plainX0 x d0 d1 d2 d3 d4 d5 d6 d7 d8 d9)]) := by
    rw [show compFrame (eSc pLC).names (fr (frD j tot word (some (.obj 281)) none)) = cP none none none by kernel_rfl]
    refine (p_turn0 21 _ _ _ _ (Nat.le_trans (by decide : ([] : List AV).length ≤ 0) (by decide))).trans ?_
    refine (p_turn1 20 _ _ _ _ (Nat.le_trans (apB_len (by decide : ([] : List AV).length ≤ 0)) (by decide))).trans ?_
    refine (p_turn2 19 _ _ _ _ (Nat.le_trans (apB_len (apB_len (by decide : ([] : List AV).length ≤ 0))) (by decide))).trans ?_
    refine (p_turn3 18 _ _ _ _ (Nat.le_trans (apB_len (apB_len (apB_len (by decide : ([] : List AV).length ≤ 0)))) (by decide))).trans ?_
    refine (p_turn4 17 _ _ _ _ (Nat.le_trans (apB_len (apB_len (apB_len (apB_len (by decide : ([] : List AV).length ≤ 0))))) (by decide))).trans ?_
    refine (p_turn5 16 _ _ _ _ (Nat.le_trans (apB_len (apB_len (apB_len (apB_len (apB_len (by decide : ([] : List AV).length ≤ 0)))))) (by decide))).trans ?_
    refine (p_turn6 15 _ _ _ _ (Nat.le_trans (apB_len (apB_len (apB_len (apB_len (apB_len (apB_len (by decide : ([] : List AV).length ≤ 0))))))) (by decide))).trans ?_
    refine (p_turn7 14 _ _ _ _ (Nat.le_trans (apB_len (apB_len (apB_len (apB_len (apB_len (apB_len (apB_len (by decide : ([] : List AV).length ≤ 0)))))))) (by decide))).trans ?_
    refine (p_turn8 13 _ _ _ _ (Nat.le_trans (apB_len (apB_len (apB_len (apB_len (apB_len (apB_len (apB_len (apB_len (by decide : ([] : List AV).length ≤ 0))))))))) (by decide))).trans ?_
    refine (p_turn9 12 _ _ _ _ (Nat.le_trans (apB_len (apB_len (apB_len (apB_len (apB_len (apB_len (apB_len (apB_len (apB_len (by decide : ([] : List AV).length ≤ 0)))))))))) (by decide))).trans ?_
    exact co_end (k := 111) (by kernel_rfl) (by kernel_rfl)
  have hce : compE (ev ns lawOrc 122) (fr (frD j tot word (some (.obj 281)) none)) (eL pLC) [pG] (eSc pLC) (h20 p x g d0 d1 d2 d3 d4 d5 d6 d7 d8 d9 od) = some (.v (.obj 282), h20 p x g d0 d1 d2 d3 d4 d5 d6 d7 d8 d9 od ++ [.list (plainX0 x d0 d1 d2 d3 d4 d5 d6 d7 d8 d9)]) :=
    comp_e (s := .enu 51) (σ1 := h20 p x g d0 d1 d2 d3 d4 d5 d6 d7 d8 d9 od) (by kernel_rfl) (by kernel_rfl) (by kernel_rfl) (by kernel_rfl) hco
  exact s_asg_lc (k := 122) (by kernel_rfl) hce (by kernel_rfl)
noncomputable def h21 (p : HQ) (x : B10) (g : List AV) (d0 d1 d2 d3 d4 d5 d6 d7 d8 d9 : Int) (od pl : List AV) : H := h20 p x g d0 d1 d2 d3 d4 d5 d6 d7 d8 d9 od ++ [.list pl]
noncomputable def h22 (p : HQ) (x : B10) (g : List AV) (d0 d1 d2 d3 d4 d5 d6 d7 d8 d9 : Int) (od pl : List AV) : H := h21 p x g d0 d1 d2 d3 d4 d5 d6 d7 d8 d9 od pl ++ [.list [], .list []]
noncomputable abbrev frE (j : LJ) (tot word : Option AV) : LV := frD j tot word (some (.obj 281)) (some (.obj 282))
variable {pl : List AV}
theorem seg22 (h1 : IsI od) (h2 : IsI pl) (h : (nilB od == nilB pl) = true) : ev ns lawOrc 122 (.s (fr (frE j tot word)) (lS 22)) (h21 p x g d0 d1 d2 d3 d4 d5 d6 d7 d8 d9 od pl) = some (.fl (fr (frE j tot word)) .next, h22 p x g d0 d1 d2 d3 d4 d5 d6 d7 d8 d9 od pl) := by
  let F := fr (frE j tot word)
  let σ := h21 p x g d0 d1 d2 d3 d4 d5 d6 d7 d8 d9 od pl
  have e1 : ev ns lawOrc 120 (.e F (eL (sT (lS 22)))) σ = some (.v (.bool (nilB od)), σ ++ [.list []]) := by
    rw [show eL (sT (lS 22)) = .Compare (eL (eL (sT (lS 22)))) [.Eq] [eR (eL (sT (lS 22)))] (eP (eL (sT (lS 22)))) by kernel_rfl]
    exact e_cmp (k := 118) (a := .obj 281) (b := .obj 283) (σ1 := σ) (by kernel_rfl) (by kernel_rfl) (by kernel_rfl) (cmp_nil (L := od) (by kernel_rfl) (by kernel_rfl) h1)
  have e2 : ev ns lawOrc 119 (.e F (eR (sT (lS 22)))) (σ ++ [.list []]) = some (.v (.bool (nilB pl)), h22 p x g d0 d1 d2 d3 d4 d5 d6 d7 d8 d9 od pl) := by
    rw [show eR (sT (lS 22)) = .Compare (eL (eR (sT (lS 22)))) [.Eq] [eR (eR (sT (lS 22)))] (eP (eR (sT (lS 22)))) by kernel_rfl]
    exact e_cmp (k := 117) (a := .obj 282) (b := .obj 284) (σ1 := σ ++ [.list []]) (by kernel_rfl) (by kernel_rfl) (by kernel_rfl) (cmp_nil (L := pl) (by kernel_rfl) (by kernel_rfl) h2)
  have ht : ev ns lawOrc 121 (.t F (sT (lS 22))) σ = some (.b (!(nilB od == nilB pl)), h22 p x g d0 d1 d2 d3 d4 d5 d6 d7 d8 d9 od pl) := by
    rw [show sT (lS 22) = .Compare (eL (sT (lS 22))) [.NotEq] [eR (sT (lS 22))] (eP (sT (lS 22))) by kernel_rfl]
    exact t_cmp (k := 119) (by kernel_rfl) e1 e2 rfl
  rw [show lS 22 = .If (sT (lS 22)) (sB (lS 22)) (sO (lS 22)) (sP (lS 22)) by kernel_rfl]
  refine (s_if_f (k := 121) ht (by rw [h]; rfl)).trans ?_
  kernel_rfl
end
end Mine
set_option maxRecDepth 100000
open PySem PySem.W PyProof.Rows
namespace Mine
noncomputable def fB0 : Stmt := nthS (sB (lS 23)) 0
noncomputable def fB1 : Stmt := nthS (sB fB0) 0
noncomputable def qLC : Expr := eL (sT fB0)
noncomputable def qG : Comprehension := nthG (eGs qLC) 0
noncomputable def qT : Expr := nthE qG.ifs 0
noncomputable def cQ (v one other : Option AV) : AF := ⟨(eSc qLC).names, [none, v, one, other]⟩
noncomputable def apI (B : Bool) (L : List Int) (v : Int) : List Int := match B with
  | true => L ++ [v]
  | false => L
noncomputable def oddI (o0 o1 o2 o3 o4 : Bool) : List Int := apI o4 (apI o3 (apI o2 (apI o1 (apI o0 [] 0) 1) 2) 3) 4
theorem oddO_map (o0 o1 o2 o3 o4 : Bool) : oddO o0 o1 o2 o3 o4 = (oddI o0 o1 o2 o3 o4).map fun i => iA i := by
  cases o0 <;> cases o1 <;> cases o2 <;> cases o3 <;> cases o4 <;> rfl
noncomputable def bes (one other : Int) (l : List Int) : List Int := l.filter fun g => !(g == one) && !(g == other)
theorem bes_cons {one other g : Int} {l : List Int} : bes one other (g :: l) = (match !(g == one) && !(g == other) with
    | true => g :: bes one other l
    | false => bes one other l) := by
  unfold bes
  rw [List.filter_cons]
  cases h : (!(g == one) && !(g == other)) with
  | true => rw [if_pos rfl]
  | false => rw [if_neg (by decide)]
theorem iA_I : ∀ l : List Int, ivals (l.map fun i => iA i) = some l
  | [] => rfl
  | a :: l => by
    show (match ivals (l.map fun i => iA i) with
      | some r => some (a :: r)
      | none => none) = _
    rw [iA_I l]
section
variable {ns : List Int} {σ : H}
theorem bes_co {l : List Int} {k : Nat} (c : Nat) {one other : Int} (hl : l.length ≤ 900) (hk : listAt σ k = some (l.map fun i => iA i)) : ∀ (m i : Nat) (ws : List AV) (v : Option AV), i + m = l.length → ws.length ≤ i →
    ∃ v', ev ns lawOrc (m + c + 50) (.co (cQ v (some (iA one)) (some (iA other))) (eL qLC) [qG] (.lst k) i σ.length) (σ ++ [.list ws]) = some (.f (cQ v' (some (iA one)) (some (iA other))), σ ++ [.list (ws ++ (bes one other (l.drop i)).map fun i => iA i)])
  | 0, i, ws, v, hm, hw => by
    refine ⟨v, ?_⟩
    have he : srcAt (σ ++ [.list ws]) (.lst k) i = some none := by
      unfold srcAt
      simp only
      rw [listAt_app hk]; simp only
      rw [List.getElem?_eq_none (by rw [List.length_map]; omega)]
    rw [co_end (k := 0 + c + 49) (by kernel_rfl) he, List.drop_eq_nil_of_le (by omega)]
    show _ = some (Res.f (cQ v _ _), σ ++ [AO.list (ws ++ [])])
    rw [List.append_nil]
  | m + 1, i, ws, v, hm, hw => by
    obtain ⟨w, hi⟩ : ∃ p, l[i]? = some p := ⟨l[i]'(by omega), List.getElem?_eq_getElem (by omega)⟩
    let C := cQ (some (iA w)) (some (iA one)) (some (iA other))
    have h1 : foAs (ev ns lawOrc (m + c + 50)) (cQ v (some (iA one)) (some (iA other))) qG.target (.lst k) i (σ ++ [.list ws]) = some (.f C, σ ++ [.list ws]) := by
      unfold foAs srcAt
      simp only
      rw [listAt_app hk]; simp only
      rw [List.getElem?_map, hi]
      kernel_rfl
    have t0 : ev ns lawOrc (m + c + 47) (.t C (nthE (eAs qT) 0)) (σ ++ [.list ws]) = some (.b (!(w == one)), σ ++ [.list ws]) := by kernel_rfl
    have t1 : ev ns lawOrc (m + c + 46) (.t C (nthE (eAs qT) 1)) (σ ++ [.list ws]) = some (.b (!(w == other)), σ ++ [.list ws]) := by kernel_rfl
    have h2 : ev ns lawOrc (m + c + 50) (.ifs C qG.ifs) (σ ++ [.list ws]) = some (.b (!(w == one) && !(w == other)), σ ++ [.list ws]) := by
      rw [show qG.ifs = [.BoolOp .And [nthE (eAs qT) 0, nthE (eAs qT) 1] (eP qT)] by kernel_rfl]
      refine ifs_one (k := m + c + 48) ((t_boolop (k := m + c + 48)).trans ?_)
      cases hb : !(w == one) with
      | false => exact ts_and_f (k := m + c + 47) t0 hb
      | true =>
        refine (ts_and_t (k := m + c + 47) t0 hb).trans ?_
        rw [Bool.true_and]
        cases hd : !(w == other) with
        | false => exact ts_and_f (k := m + c + 46) t1 hd
        | true => exact (ts_and_t (k := m + c + 46) t1 hd).trans (ts_and_nil (k := m + c + 45))
    rw [show m + 1 + c + 50 = m + c + 50 + 1 by omega, drop_cons_get hi, bes_cons]
    cases hB : (!(w == one) && !(w == other)) with
    | true =>
      have h3 : ev ns lawOrc (m + c + 50) (.e C (eL qLC)) (σ ++ [.list ws]) = some (.v (iA w), σ ++ [.list ws]) := by kernel_rfl
      have e := co_yes (k := m + c + 50) (by kernel_rfl) h1 h2 hB h3 (append_ok listAt_last (by omega))
      obtain ⟨v', ih⟩ := bes_co c hl hk m (i + 1) (ws ++ [iA w]) (some (iA w)) (by omega) (by rw [List.length_append]; simp; omega)
      refine ⟨v', ?_⟩
      rw [e, set_last, ih, List.append_assoc]; rfl
    | false =>
      obtain ⟨v', ih⟩ := bes_co c hl hk m (i + 1) ws (some (iA w)) (by omega) (by omega)
      refine ⟨v', ?_⟩
      rw [co_no (k := m + c + 50) (by kernel_rfl) h1 h2 hB]
      exact ih
noncomputable def frL (j : LJ) (tot word a b c : Option AV) : LV := { frE j tot word with at_ := a, one := b, other := c }
/-- the test of the law's last loop -/
theorem l_test {j : LJ} {tot word a : Option AV} {l : List Int} {one other : Int} (m : Nat) (hl : l.length ≤ 5) (hk : listAt σ 281 = some (l.map fun i => iA i)) : ev ns lawOrc (m + 98) (.t (fr (frL j tot word a (some (iA one)) (some (iA other)))) (sT fB0)) σ =
    some (.b (nilB ((bes one other l).map fun i => iA i)), σ ++ [.list ((bes one other l).map fun i => iA i)] ++ [.list []]) := by
  let F := fr (frL j tot word a (some (iA one)) (some (iA other)))
  obtain ⟨v', hco⟩ := bes_co (ns := ns) (one := one) (other := other) (m + 46 - l.length) (by omega) hk l.length 0 [] none (by omega) (Nat.le_refl _)
  rw [List.nil_append, List.drop_zero, show l.length + (m + 46 - l.length) + 50 = m + 96 by omega] at hco
  let R : List AV := (bes one other l).map fun i => iA i
  have hlc : ev ns lawOrc (m + 97) (.e F qLC) σ = some (.v (.obj σ.length), σ ++ [.list R]) := by
    rw [show qLC = .ListComp (eL qLC) [qG] (eSc qLC) (eP qLC) by kernel_rfl]
    refine e_lc (k := m + 96) (comp_e (by kernel_rfl) (by kernel_rfl) (by kernel_rfl) (it_list (k := m + 95) (by kernel_rfl) (by kernel_rfl) (by kernel_rfl) hk) (f' := cQ v' (some (iA one)) (some (iA other))) ?_)
    rw [show compFrame (eSc qLC).names F = cQ none (some (iA one)) (some (iA other)) by kernel_rfl]
    exact hco
  rw [show sT fB0 = .Compare qLC [.Eq] [eR (sT fB0)] (eP (sT fB0)) by kernel_rfl]
  exact t_cmp (k := m + 96) (a := .obj σ.length) (b := .obj (σ ++ [AO.list R]).length) (σ1 := σ ++ [.list R]) (by kernel_rfl) hlc (by kernel_rfl) (cmp_nil (L := R) (listAt_app listAt_last) listAt_last ⟨_, iA_I _⟩)
theorem oddI_len (o0 o1 o2 o3 o4 : Bool) : (oddI o0 o1 o2 o3 o4).length ≤ 5 := by
  cases o0 <;> cases o1 <;> cases o2 <;> cases o3 <;> cases o4 <;> decide
end
section
variable {ns : List Int} {p : HQ} {x : B10} {j : LJ} {tot word : Option AV} {g pl : List AV} {d0 d1 d2 d3 d4 d5 d6 d7 d8 d9 : Int} {o0 o1 o2 o3 o4 : Bool}

theorem l_em0 (o0 o1 o2 o3 o4 : Bool) : nilB ((bes 0 1 (oddI o0 o1 o2 o3 o4)).map fun i => iA i) = (!o2 && !o3 && !o4) := by
  cases o0 <;> cases o1 <;> cases o2 <;> cases o3 <;> cases o4 <;> rfl
theorem l_turn0 (m : Nat) (G : H) (a b c : Option AV) (h : ((!o2 && !o3 && !o4) && (Int.fmod (d0 + sumFrom 0 [0, bI x.b0, bI x.b1, bI x.b2, bI x.b3] - bI x.b0) 2 == 1)) = false) : ∃ R, ev ns lawOrc (m + 101) (.fo (fr (frL j tot word a b c)) (sT (lS 23)) (.enu 51) 0 (sB (lS 23))) (h22 p x g d0 d1 d2 d3 d4 d5 d6 d7 d8 d9 (oddO o0 o1 o2 o3 o4) pl ++ G) =
    ev ns lawOrc (m + 100) (.fo (fr (frL j tot word (some (iA 0)) (some (iA 0)) (some (iA 1)))) (sT (lS 23)) (.enu 51) 1 (sB (lS 23))) (h22 p x g d0 d1 d2 d3 d4 d5 d6 d7 d8 d9 (oddO o0 o1 o2 o3 o4) pl ++ (G ++ [.list R] ++ [.list []])) := by
  have h1 : foAs (ev ns lawOrc (m + 100)) (fr (frL j tot word a b c)) (sT (lS 23)) (.enu 51) 0 (h22 p x g d0 d1 d2 d3 d4 d5 d6 d7 d8 d9 (oddO o0 o1 o2 o3 o4) pl ++ G) = some (.f (fr (frL j tot word (some (iA 0)) (some (iA 0)) (some (iA 1)))), (h22 p x g d0 d1 d2 d3 d4 d5 d6 d7 d8 d9 (oddO o0 o1 o2 o3 o4) pl ++ G)) := by kernel_rfl
  have hk : listAt (h22 p x g d0 d1 d2 d3 d4 d5 d6 d7 d8 d9 (oddO o0 o1 o2 o3 o4) pl ++ G) 281 = some ((oddI o0 o1 o2 o3 o4).map fun i => iA i) := by
    rw [← oddO_map]
    kernel_rfl
  have tt := l_test (ns := ns) (j := j) (tot := tot) (word := word) (a := some (iA 0)) (one := 0) (other := 1) m (oddI_len o0 o1 o2 o3 o4) hk
  rw [l_em0, List.append_assoc _ G, List.append_assoc _ (G ++ _)] at tt
  refine ⟨(bes 0 1 (oddI o0 o1 o2 o3 o4)).map fun i => iA i, fo_turn (k := m + 100) h1 ?_⟩
  rw [show sB (lS 23) = [.If (sT fB0) [.If (sT fB1) (sB fB1) (sO fB1) (sP fB1)] (sO fB0) (sP fB0)] by kernel_rfl]
  refine ss_one (k := m + 98) ?_
  cases hE : (!o2 && !o3 && !o4) with
  | false =>
    refine (s_if_f (k := m + 98) tt hE).trans ?_
    kernel_rfl
  | true =>
    rw [hE, Bool.true_and] at h
    refine (s_if_t (k := m + 98) tt hE).trans ?_
    have t2 : ∀ G : H, ev ns lawOrc (m + 96) (.t (fr (frL j tot word (some (iA 0)) (some (iA 0)) (some (iA 1)))) (sT fB1)) (h22 p x g d0 d1 d2 d3 d4 d5 d6 d7 d8 d9 (oddO o0 o1 o2 o3 o4) pl ++ G) = some (.b (Int.fmod (d0 + sumFrom 0 [0, bI x.b0, bI x.b1, bI x.b2, bI x.b3] - bI x.b0) 2 == 1), h22 p x g d0 d1 d2 d3 d4 d5 d6 d7 d8 d9 (oddO o0 o1 o2 o3 o4) pl ++ G) := fun G => by kernel_rfl
    refine ss_one (k := m + 96) ?_
    refine (s_if_f (k := m + 96) (t2 _) h).trans ?_
    kernel_rfl

theorem l_em1 (o0 o1 o2 o3 o4 : Bool) : nilB ((bes 0 2 (oddI o0 o1 o2 o3 o4)).map fun i => iA i) = (!o1 && !o3 && !o4) := by
  cases o0 <;> cases o1 <;> cases o2 <;> cases o3 <;> cases o4 <;> rfl
theorem l_turn1 (m : Nat) (G : H) (a b c : Option AV) (h : ((!o1 && !o3 && !o4) && (Int.fmod (d1 + sumFrom 0 [0, bI x.b0, bI x.b1, bI x.b2, bI x.b3] - bI x.b1) 2 == 1)) = false) : ∃ R, ev ns lawOrc (m + 101) (.fo (fr (frL j tot word a b c)) (sT (lS 23)) (.enu 51) 1 (sB (lS 23))) (h22 p x g d0 d1 d2 d3 d4 d5 d6 d7 d8 d9 (oddO o0 o1 o2 o3 o4) pl ++ G) =
    ev ns lawOrc (m + 100) (.fo (fr (frL j tot word (some (iA 1)) (some (iA 0)) (some (iA 2)))) (sT (lS 23)) (.enu 51) 2 (sB (lS 23))) (h22 p x g d0 d1 d2 d3 d4 d5 d6 d7 d8 d9 (oddO o0 o1 o2 o3 o4) pl ++ (G ++ [.list R] ++ [.list []])) := by
  have h1 : foAs (ev ns lawOrc (m + 100)) (fr (frL j tot word a b c)) (sT (lS 23)) (.enu 51) 1 (h22 p x g d0 d1 d2 d3 d4 d5 d6 d7 d8 d9 (oddO o0 o1 o2 o3 o4) pl ++ G) = some (.f (fr (frL j tot word (some (iA 1)) (some (iA 0)) (some (iA 2)))), (h22 p x g d0 d1 d2 d3 d4 d5 d6 d7 d8 d9 (oddO o0 o1 o2 o3 o4) pl ++ G)) := by kernel_rfl
  have hk : listAt (h22 p x g d0 d1 d2 d3 d4 d5 d6 d7 d8 d9 (oddO o0 o1 o2 o3 o4) pl ++ G) 281 = some ((oddI o0 o1 o2 o3 o4).map fun i => iA i) := by
    rw [← oddO_map]
    kernel_rfl
  have tt := l_test (ns := ns) (j := j) (tot := tot) (word := word) (a := some (iA 1)) (one := 0) (other := 2) m (oddI_len o0 o1 o2 o3 o4) hk
  rw [l_em1, List.append_assoc _ G, List.append_assoc _ (G ++ _)] at tt
  refine ⟨(bes 0 2 (oddI o0 o1 o2 o3 o4)).map fun i => iA i, fo_turn (k := m + 100) h1 ?_⟩
  rw [show sB (lS 23) = [.If (sT fB0) [.If (sT fB1) (sB fB1) (sO fB1) (sP fB1)] (sO fB0) (sP fB0)] by kernel_rfl]
  refine ss_one (k := m + 98) ?_
  cases hE : (!o1 && !o3 && !o4) with
  | false =>
    refine (s_if_f (k := m + 98) tt hE).trans ?_
    kernel_rfl
  | true =>
    rw [hE, Bool.true_and] at h
    refine (s_if_t (k := m + 98) tt hE).trans ?_
    have t2 : ∀ G : H, ev ns lawOrc (m + 96) (.t (fr (frL j tot word (some (iA 1)) (some (iA 0)) (some (iA 2)))) (sT fB1)) (h22 p x g d0 d1 d2 d3 d4 d5 d6 d7 d8 d9 (oddO o0 o1 o2 o3 o4) pl ++ G) = some (.b (Int.fmod (d1 + sumFrom 0 [0, bI x.b0, bI x.b1, bI x.b2, bI x.b3] - bI x.b1) 2 == 1), h22 p x g d0 d1 d2 d3 d4 d5 d6 d7 d8 d9 (oddO o0 o1 o2 o3 o4) pl ++ G) := fun G => by kernel_rfl
    refine ss_one (k := m + 96) ?_
    refine (s_if_f (k := m + 96) (t2 _) h).trans ?_
    kernel_rfl

theorem l_em2 (o0 o1 o2 o3 o4 : Bool) : nilB ((bes 0 3 (oddI o0 o1 o2 o3 o4)).map fun i => iA i) = (!o1 && !o2 && !o4) := by
  cases o0 <;> cases o1 <;> cases o2 <;> cases o3 <;> cases o4 <;> rfl
theorem l_turn2 (m : Nat) (G : H) (a b c : Option AV) (h : ((!o1 && !o2 && !o4) && (Int.fmod (d2 + sumFrom 0 [0, bI x.b0, bI x.b1, bI x.b2, bI x.b3] - bI x.b2) 2 == 1)) = false) : ∃ R, ev ns lawOrc (m + 101) (.fo (fr (frL j tot word a b c)) (sT (lS 23)) (.enu 51) 2 (sB (lS 23))) (h22 p x g d0 d1 d2 d3 d4 d5 d6 d7 d8 d9 (oddO o0 o1 o2 o3 o4) pl ++ G) =
    ev ns lawOrc (m + 100) (.fo (fr (frL j tot word (some (iA 2)) (some (iA 0)) (some (iA 3)))) (sT (lS 23)) (.enu 51) 3 (sB (lS 23))) (h22 p x g d0 d1 d2 d3 d4 d5 d6 d7 d8 d9 (oddO o0 o1 o2 o3 o4) pl ++ (G ++ [.list R] ++ [.list []])) := by
  have h1 : foAs (ev ns lawOrc (m + 100)) (fr (frL j tot word a b c)) (sT (lS 23)) (.enu 51) 2 (h22 p x g d0 d1 d2 d3 d4 d5 d6 d7 d8 d9 (oddO o0 o1 o2 o3 o4) pl ++ G) = some (.f (fr (frL j tot word (some (iA 2)) (some (iA 0)) (some (iA 3)))), (h22 p x g d0 d1 d2 d3 d4 d5 d6 d7 d8 d9 (oddO o0 o1 o2 o3 o4) pl ++ G)) := by kernel_rfl
  have hk : listAt (h22 p x g d0 d1 d2 d3 d4 d5 d6 d7 d8 d9 (oddO o0 o1 o2 o3 o4) pl ++ G) 281 = some ((oddI o0 o1 o2 o3 o4).map fun i => iA i) := by
    rw [← oddO_map]
    kernel_rfl
  have tt := l_test (ns := ns) (j := j) (tot := tot) (word := word) (a := some (iA 2)) (one := 0) (other := 3) m (oddI_len o0 o1 o2 o3 o4) hk
  rw [l_em2, List.append_assoc _ G, List.append_assoc _ (G ++ _)] at tt
  refine ⟨(bes 0 3 (oddI o0 o1 o2 o3 o4)).map fun i => iA i, fo_turn (k := m + 100) h1 ?_⟩
  rw [show sB (lS 23) = [.If (sT fB0) [.If (sT fB1) (sB fB1) (sO fB1) (sP fB1)] (sO fB0) (sP fB0)] by kernel_rfl]
  refine ss_one (k := m + 98) ?_
  cases hE : (!o1 && !o2 && !o4) with
  | false =>
    refine (s_if_f (k := m + 98) tt hE).trans ?_
    kernel_rfl
  | true =>
    rw [hE, Bool.true_and] at h
    refine (s_if_t (k := m + 98) tt hE).trans ?_
    have t2 : ∀ G : H, ev ns lawOrc (m + 96) (.t (fr (frL j tot word (some (iA 2)) (some (iA 0)) (some (iA 3)))) (sT fB1)) (h22 p x g d0 d1 d2 d3 d4 d5 d6 d7 d8 d9 (oddO o0 o1 o2 o3 o4) pl ++ G) = some (.b (Int.fmod (d2 + sumFrom 0 [0, bI x.b0, bI x.b1, bI x.b2, bI x.b3] - bI x.b2) 2 == 1), h22 p x g d0 d1 d2 d3 d4 d5 d6 d7 d8 d9 (oddO o0 o1 o2 o3 o4) pl ++ G) := fun G => by kernel_rfl
    refine ss_one (k := m + 96) ?_
    refine (s_if_f (k := m + 96) (t2 _) h).trans ?_
    kernel_rfl

theorem l_em3 (o0 o1 o2 o3 o4 : Bool) : nilB ((bes 0 4 (oddI o0 o1 o2 o3 o4)).map fun i => iA i) = (!o1 && !o2 && !o3) := by
  cases o0 <;> cases o1 <;> cases o2 <;> cases o3 <;> cases o4 <;> rfl
theorem l_turn3 (m : Nat) (G : H) (a b c : Option AV) (h : ((!o1 && !o2 && !o3) && (Int.fmod (d3 + sumFrom 0 [0, bI x.b0, bI x.b1, bI x.b2, bI x.b3] - bI x.b3) 2 == 1)) = false) : ∃ R, ev ns lawOrc (m + 101) (.fo (fr (frL j tot word a b c)) (sT (lS 23)) (.enu 51) 3 (sB (lS 23))) (h22 p x g d0 d1 d2 d3 d4 d5 d6 d7 d8 d9 (oddO o0 o1 o2 o3 o4) pl ++ G) =
    ev ns lawOrc (m + 100) (.fo (fr (frL j tot word (some (iA 3)) (some (iA 0)) (some (iA 4)))) (sT (lS 23)) (.enu 51) 4 (sB (lS 23))) (h22 p x g d0 d1 d2 d3 d4 d5 d6 d7 d8 d9 (oddO o0 o1 o2 o3 o4) pl ++ (G ++ [.list R] ++ [.list []])) := by
  have h1 : foAs (ev ns lawOrc (m + 100)) (fr (frL j tot word a b c)) (sT (lS 23)) (.enu 51) 3 (h22 p x g d0 d1 d2 d3 d4 d5 d6 d7 d8 d9 (oddO o0 o1 o2 o3 o4) pl ++ G) = some (.f (fr (frL j tot word (some (iA 3)) (some (iA 0)) (some (iA 4)))), (h22 p x g d0 d1 d2 d3 d4 d5 d6 d7 d8 d9 (oddO o0 o1 o2 o3 o4) pl ++ G)) := by kernel_rfl
  have hk : listAt (h22 p x g d0 d1 d2 d3 d4 d5 d6 d7 d8 d9 (oddO o0 o1 o2 o3 o4) pl ++ G) 281 = some ((oddI o0 o1 o2 o3 o4).map fun i => iA i) := by
    rw [← oddO_map]
    kernel_rfl
  have tt := l_test (ns := ns) (j := j) (tot := tot) (word := word) (a := some (iA 3)) (one := 0) (other := 4) m (oddI_len o0 o1 o2 o3 o4) hk
  rw [l_em3, List.append_assoc _ G, List.append_assoc _ (G ++ _)] at tt
  refine ⟨(bes 0 4 (oddI o0 o1 o2 o3 o4)).map fun i => iA i, fo_turn (k := m + 100) h1 ?_⟩
  rw [show sB (lS 23) = [.If (sT fB0) [.If (sT fB1) (sB fB1) (sO fB1) (sP fB1)] (sO fB0) (sP fB0)] by kernel_rfl]
  refine ss_one (k := m + 98) ?_
  cases hE : (!o1 && !o2 && !o3) with
  | false =>
    refine (s_if_f (k := m + 98) tt hE).trans ?_
    kernel_rfl
  | true =>
    rw [hE, Bool.true_and] at h
    refine (s_if_t (k := m + 98) tt hE).trans ?_
    have t2 : ∀ G : H, ev ns lawOrc (m + 96) (.t (fr (frL j tot word (some (iA 3)) (some (iA 0)) (some (iA 4)))) (sT fB1)) (h22 p x g d0 d1 d2 d3 d4 d5 d6 d7 d8 d9 (oddO o0 o1 o2 o3 o4) pl ++ G) = some (.b (Int.fmod (d3 + sumFrom 0 [0, bI x.b0, bI x.b1, bI x.b2, bI x.b3] - bI x.b3) 2 == 1), h22 p x g d0 d1 d2 d3 d4 d5 d6 d7 d8 d9 (oddO o0 o1 o2 o3 o4) pl ++ G) := fun G => by kernel_rfl
    refine ss_one (k := m + 96) ?_
    refine (s_if_f (k := m + 96) (t2 _) h).trans ?_
    kernel_rfl

theorem l_em4 (o0 o1 o2 o3 o4 : Bool) : nilB ((bes 1 2 (oddI o0 o1 o2 o3 o4)).map fun i => iA i) = (!o0 && !o3 && !o4) := by
  cases o0 <;> cases o1 <;> cases o2 <;> cases o3 <;> cases o4 <;> rfl
theorem l_turn4 (m : Nat) (G : H) (a b c : Option AV) (h : ((!o0 && !o3 && !o4) && (Int.fmod (d4 + sumFrom 0 [bI x.b0, 0, bI x.b4, bI x.b5, bI x.b6] - bI x.b4) 2 == 1)) = false) : ∃ R, ev ns lawOrc (m + 101) (.fo (fr (frL j tot word a b c)) (sT (lS 23)) (.enu 51) 4 (sB (lS 23))) (h22 p x g d0 d1 d2 d3 d4 d5 d6 d7 d8 d9 (oddO o0 o1 o2 o3 o4) pl ++ G) =
    ev ns lawOrc (m + 100) (.fo (fr (frL j tot word (some (iA 4)) (some (iA 1)) (some (iA 2)))) (sT (lS 23)) (.enu 51) 5 (sB (lS 23))) (h22 p x g d0 d1 d2 d3 d4 d5 d6 d7 d8 d9 (oddO o0 o1 o2 o3 o4) pl ++ (G ++ [.list R] ++ [.list []])) := by
  have h1 : foAs (ev ns lawOrc (m + 100)) (fr (frL j tot word a b c)) (sT (lS 23)) (.enu 51) 4 (h22 p x g d0 d1 d2 d3 d4 d5 d6 d7 d8 d9 (oddO o0 o1 o2 o3 o4) pl ++ G) = some (.f (fr (frL j tot word (some (iA 4)) (some (iA 1)) (some (iA 2)))), (h22 p x g d0 d1 d2 d3 d4 d5 d6 d7 d8 d9 (oddO o0 o1 o2 o3 o4) pl ++ G)) := by kernel_rfl
  have hk : listAt (h22 p x g d0 d1 d2 d3 d4 d5 d6 d7 d8 d9 (oddO o0 o1 o2 o3 o4) pl ++ G) 281 = some ((oddI o0 o1 o2 o3 o4).map fun i => iA i) := by
    rw [← oddO_map]
    kernel_rfl
  have tt := l_test (ns := ns) (j := j) (tot := tot) (word := word) (a := some (iA 4)) (one := 1) (other := 2) m (oddI_len o0 o1 o2 o3 o4) hk
  rw [l_em4, List.append_assoc _ G, List.append_assoc _ (G ++ _)] at tt
  refine ⟨(bes 1 2 (oddI o0 o1 o2 o3 o4)).map fun i => iA i, fo_turn (k := m + 100) h1 ?_⟩
  rw [show sB (lS 23) = [.If (sT fB0) [.If (sT fB1) (sB fB1) (sO fB1) (sP fB1)] (sO fB0) (sP fB0)] by kernel_rfl]
  refine ss_one (k := m + 98) ?_
  cases hE : (!o0 && !o3 && !o4) with
  | false =>
    refine (s_if_f (k := m + 98) tt hE).trans ?_
    kernel_rfl
  | true =>
    rw [hE, Bool.true_and] at h
    refine (s_if_t (k := m + 98) tt hE).trans ?_
    have t2 : ∀ G : H, ev ns lawOrc (m + 96) (.t (fr (frL j tot word (some (iA 4)) (some (iA 1)) (some (iA 2)))) (sT fB1)) (h22 p x g d0 d1 d2 d3 d4 d5 d6 d7 d8 d9 (oddO o0 o1 o2 o3 o4) pl ++ G) = some (.b (Int.fmod (d4 + sumFrom 0 [bI x.b0, 0, bI x.b4, bI x.b5, bI x.b6] - bI x.b4) 2 == 1), h22 p x g d0 d1 d2 d3 d4 d5 d6 d7 d8 d9 (oddO o0 o1 o2 o3 o4) pl ++ G) := fun G => by kernel_rfl
    refine ss_one (k := m + 96) ?_
    refine (s_if_f (k := m + 96) (t2 _) h).trans ?_
    kernel_rfl

theorem l_em5 (o0 o1 o2 o3 o4 : Bool) : nilB ((bes 1 3 (oddI o0 o1 o2 o3 o4)).map fun i => iA i) = (!o0 && !o2 && !o4) := by
  cases o0 <;> cases o1 <;> cases o2 <;> cases o3 <;> cases o4 <;> rfl
theorem l_turn5 (m : Nat) (G : H) (a b c : Option AV) (h : ((!o0 && !o2 && !o4) && (Int.fmod (d5 + sumFrom 0 [bI x.b0, 0, bI x.b4, bI x.b5, bI x.b6] - bI x.b5) 2 == 1)) = false) : ∃ R, ev ns lawOrc (m + 101) (.fo (fr (frL j tot word a b c)) (sT (lS 23)) (.enu 51) 5 (sB (lS 23))) (h22 p x g d0 d1 d2 d3 d4 d5 d6 d7 d8 d9 (oddO o0 o1 o2 o3 o4) pl ++ G) =
    ev ns lawOrc (m + 100) (.fo (fr (frL j tot word (some (iA 5)) (some (iA 1)) (some (iA 3)))) (sT (lS 23)) (.enu 51) 6 (sB (lS 23))) (h22 p x g d0 d1 d2 d3 d4 d5 d6 d7 d8 d9 (oddO o0 o1 o2 o3 o4) pl ++ (G ++ [.list R] ++ [.list []])) := by
  have h1 : foAs (ev ns lawOrc (m + 100)) (fr (frL j tot word a b c)) (sT (lS 23)) (.enu 51) 5 (h22 p x g d0 d1 d2 d3 d4 d5 d6 d7 d8 d9 (oddO o0 o1 o2 o3 o4) pl ++ G) = some (.f (fr (frL j tot word (some (iA 5)) (some (iA 1)) (some (iA 3)))), (h22 p x g d0 d1 d2 d3 d4 d5 d6 d7 d8 d9 (oddO o0 o1 o2 o3 o4) pl ++ G)) := by kernel_rfl
  have hk : listAt (h22 p x g d0 d1 d2 d3 d4 d5 d6 d7 d8 d9 (oddO o0 o1 o2 o3 o4) pl ++ G) 281 = some ((oddI o0 o1 o2 o3 o4).map fun i => iA i) := by
    rw [← oddO_map]
    kernel_rfl
  have tt := l_test (ns := ns) (j := j) (tot := tot) (word := word) (a := some (iA 5)) (one := 1) (other := 3) m (oddI_len o0 o1 o2 o3 o4) hk
  rw [l_em5, List.append_assoc _ G, List.append_assoc _ (G ++ _)] at tt
  refine ⟨(bes 1 3 (oddI o0 o1 o2 o3 o4)).map fun i => iA i, fo_turn (k := m + 100) h1 ?_⟩
  rw [show sB (lS 23) = [.If (sT fB0) [.If (sT fB1) (sB fB1) (sO fB1) (sP fB1)] (sO fB0) (sP fB0)] by kernel_rfl]
  refine ss_one (k := m + 98) ?_
  cases hE : (!o0 && !o2 && !o4) with
  | false =>
    refine (s_if_f (k := m + 98) tt hE).trans ?_
    kernel_rfl
  | true =>
    rw [hE, Bool.true_and] at h
    refine (s_if_t (k := m + 98) tt hE).trans ?_
    have t2 : ∀ G : H, ev ns lawOrc (m + 96) (.t (fr (frL j tot word (some (iA 5)) (some (iA 1)) (some (iA 3)))) (sT fB1)) (h22 p x g d0 d1 d2 d3 d4 d5 d6 d7 d8 d9 (oddO o0 o1 o2 o3 o4) pl ++ G) = some (.b (Int.fmod (d5 + sumFrom 0 [bI x.b0, 0, bI x.b4, bI x.b5, bI x.b6] - bI x.b5) 2 == 1), h22 p x g d0 d1 d2 d3 d4 d5 d6 d7 d8 d9 (oddO o0 o1 o2 o3 o4) pl ++ G) := fun G => by kernel_rfl
    refine ss_one (k := m + 96) ?_
    refine (s_if_f (k := m + 96) (t2 _) h).trans ?_
    kernel_rfl

theorem l_em6 (o0 o1 o2 o3 o4 : Bool) : nilB ((bes 1 4 (oddI o0 o1 o2 o3 o4)).map fun i => iA i) = (!o0 && !o2 && !o3) := by
  cases o0 <;> cases o1 <;> cases o2 <;> cases o3 <;> cases o4 <;> rfl
theorem l_turn6 (m : Nat) (G : H) (a b c : Option AV) (h : ((!o0 && !o2 && !o3) && (Int.fmod (d6 + sumFrom 0 [bI x.b0, 0, bI x.b4, bI x.b5, bI x.b6] - bI x.b6) 2 == 1)) = false) : ∃ R, ev ns lawOrc (m + 101) (.fo (fr (frL j tot word a b c)) (sT (lS 23)) (.enu 51) 6 (sB (lS 23))) (h22 p x g d0 d1 d2 d3 d4 d5 d6 d7 d8 d9 (oddO o0 o1 o2 o3 o4) pl ++ G) =
    ev ns lawOrc (m + 100) (.fo (fr (frL j tot word (some (iA 6)) (some (iA 1)) (some (iA 4)))) (sT (lS 23)) (.enu 51) 7 (sB (lS 23))) (h22 p x g d0 d1 d2 d3 d4 d5 d6 d7 d8 d9 (oddO o0 o1 o2 o3 o4) pl ++ (G ++ [.list R] ++ [.list []])) := by
  have h1 : foAs (ev ns lawOrc (m + 100)) (fr (frL j tot word a b c)) (sT (lS 23)) (.enu 51) 6 (h22 p x g d0 d1 d2 d3 d4 d5 d6 d7 d8 d9 (oddO o0 o1 o2 o3 o4) pl ++ G) = some (.f (fr (frL j tot word (some (iA 6)) (some (iA 1)) (some (iA 4)))), (h22 p x g d0 d1 d2 d3 d4 d5 d6 d7 d8 d9 (oddO o0 o1 o2 o3 o4) pl ++ G)) := by kernel_rfl
  have hk : listAt (h22 p x g d0 d1 d2 d3 d4 d5 d6 d7 d8 d9 (oddO o0 o1 o2 o3 o4) pl ++ G) 281 = some ((oddI o0 o1 o2 o3 o4).map fun i => iA i) := by
    rw [← oddO_map]
    kernel_rfl
  have tt := l_test (ns := ns) (j := j) (tot := tot) (word := word) (a := some (iA 6)) (one := 1) (other := 4) m (oddI_len o0 o1 o2 o3 o4) hk
  rw [l_em6, List.append_assoc _ G, List.append_assoc _ (G ++ _)] at tt
  refine ⟨(bes 1 4 (oddI o0 o1 o2 o3 o4)).map fun i => iA i, fo_turn (k := m + 100) h1 ?_⟩
  rw [show sB (lS 23) = [.If (sT fB0) [.If (sT fB1) (sB fB1) (sO fB1) (sP fB1)] (sO fB0) (sP fB0)] by kernel_rfl]
  refine ss_one (k := m + 98) ?_
  cases hE : (!o0 && !o2 && !o3) with
  | false =>
    refine (s_if_f (k := m + 98) tt hE).trans ?_
    kernel_rfl
  | true =>
    rw [hE, Bool.true_and] at h
    refine (s_if_t (k := m + 98) tt hE).trans ?_
    have t2 : ∀ G : H, ev ns lawOrc (m + 96) (.t (fr (frL j tot word (some (iA 6)) (some (iA 1)) (some (iA 4)))) (sT fB1)) (h22 p x g d0 d1 d2 d3 d4 d5 d6 d7 d8 d9 (oddO o0 o1 o2 o3 o4) pl ++ G) = some (.b (Int.fmod (d6 + sumFrom 0 [bI x.b0, 0, bI x.b4, bI x.b5, bI x.b6] - bI x.b6) 2 == 1), h22 p x g d0 d1 d2 d3 d4 d5 d6 d7 d8 d9 (oddO o0 o1 o2 o3 o4) pl ++ G) := fun G => by kernel_rfl
    refine ss_one (k := m + 96) ?_
    refine (s_if_f (k := m + 96) (t2 _) h).trans ?_
    kernel_rfl

theorem l_em7 (o0 o1 o2 o3 o4 : Bool) : nilB ((bes 2 3 (oddI o0 o1 o2 o3 o4)).map fun i => iA i) = (!o0 && !o1 && !o4) := by
  cases o0 <;> cases o1 <;> cases o2 <;> cases o3 <;> cases o4 <;> rfl
theorem l_turn7 (m : Nat) (G : H) (a b c : Option AV) (h : ((!o0 && !o1 && !o4) && (Int.fmod (d7 + sumFrom 0 [bI x.b1, bI x.b4, 0, bI x.b7, bI x.b8] - bI x.b7) 2 == 1)) = false) : ∃ R, ev ns lawOrc (m + 101) (.fo (fr (frL j tot word a b c)) (sT (lS 23)) (.enu 51) 7 (sB (lS 23))) (h22 p x g d0 d1 d2 d3 d4 d5 d6 d7 d8 d9 (oddO o0 o1 o2 o3 o4) pl ++ G) =
    ev ns lawOrc (m + 100) (.fo (fr (frL j tot word (some (iA 7)) (some (iA 2)) (some (iA 3)))) (sT (lS 23)) (.enu 51) 8 (sB (lS 23))) (h22 p x g d0 d1 d2 d3 d4 d5 d6 d7 d8 d9 (oddO o0 o1 o2 o3 o4) pl ++ (G ++ [.list R] ++ [.list []])) := by
  have h1 : foAs (ev ns lawOrc (m + 100)) (fr (frL j tot word a b c)) (sT (lS 23)) (.enu 51) 7 (h22 p x g d0 d1 d2 d3 d4 d5 d6 d7 d8 d9 (oddO o0 o1 o2 o3 o4) pl ++ G) = some (.f (fr (frL j tot word (some (iA 7)) (some (iA 2)) (some (iA 3)))), (h22 p x g d0 d1 d2 d3 d4 d5 d6 d7 d8 d9 (oddO o0 o1 o2 o3 o4) pl ++ G)) := by kernel_rfl
  have hk : listAt (h22 p x g d0 d1 d2 d3 d4 d5 d6 d7 d8 d9 (oddO o0 o1 o2 o3 o4) pl ++ G) 281 = some ((oddI o0 o1 o2 o3 o4).map fun i => iA i) := by
    rw [← oddO_map]
    kernel_rfl
  have tt := l_test (ns := ns) (j := j) (tot := tot) (word := word) (a := some (iA 7)) (one := 2) (other := 3) m (oddI_len o0 o1 o2 o3 o4) hk
  rw [l_em7, List.append_assoc _ G, List.append_assoc _ (G ++ _)] at tt
  refine ⟨(bes 2 3 (oddI o0 o1 o2 o3 o4)).map fun i => iA i, fo_turn (k := m + 100) h1 ?_⟩
  rw [show sB (lS 23) = [.If (sT fB0) [.If (sT fB1) (sB fB1) (sO fB1) (sP fB1)] (sO fB0) (sP fB0)] by kernel_rfl]
  refine ss_one (k := m + 98) ?_
  cases hE : (!o0 && !o1 && !o4) with
  | false =>
    refine (s_if_f (k := m + 98) tt hE).trans ?_
    kernel_rfl
  | true =>
    rw [hE, Bool.true_and] at h
    refine (s_if_t (k := m + 98) tt hE).trans ?_
    have t2 : ∀ G : H, ev ns lawOrc (m + 96) (.t (fr (frL j tot word (some (iA 7)) (some (iA 2)) (some (iA 3)))) (sT fB1)) (h22 p x g d0 d1 d2 d3 d4 d5 d6 d7 d8 d9 (oddO o0 o1 o2 o3 o4) pl ++ G) = some (.b (Int.fmod (d7 + sumFrom 0 [bI x.b1, bI x.b4, 0, bI x.b7, bI x.b8] - bI x.b7) 2 == 1), h22 p x g d0 d1 d2 d3 d4 d5 d6 d7 d8 d9 (oddO o0 o1 o2 o3 o4) pl ++ G) := fun G => by kernel_rfl
    refine ss_one (k := m + 96) ?_
    refine (s_if_f (k := m + 96) (t2 _) h).trans ?_
    kernel_rfl

theorem l_em8 (o0 o1 o2 o3 o4 : Bool) : nilB ((bes 2 4 (oddI o0 o1 o2 o3 o4)).map fun i => iA i) = (!o0 && !o1 && !o3) := by
  cases o0 <;> cases o1 <;> cases o2 <;> cases o3 <;> cases o4 <;> rfl
theorem l_turn8 (m : Nat) (G : H) (a b c : Option AV) (h : ((!o0 && !o1 && !o3) && (Int.fmod (d8 + sumFrom 0 [bI x.b1, bI x.b4, 0, bI x.b7, bI x.b8] - bI x.b8) 2 == 1)) = false) : ∃ R, ev ns lawOrc (m + 101) (.fo (fr (frL j tot word a b c)) (sT (lS 23)) (.enu 51) 8 (sB (lS 23))) (h22 p x g d0 d1 d2 d3 d4 d5 d6 d7 d8 d9 (oddO o0 o1 o2 o3 o4) pl ++ G) =
    ev ns lawOrc (m + 100) (.fo (fr (frL j tot word (some (iA 8)) (some (iA 2)) (some (iA 4)))) (sT (lS 23)) (.enu 51) 9 (sB (lS 23))) (h22 p x g d0 d1 d2 d3 d4 d5 d6 d7 d8 d9 (oddO o0 o1 o2 o3 o4) pl ++ (G ++ [.list R] ++ [.list []])) := by
  have h1 : foAs (ev ns lawOrc (m + 100)) (fr (frL j tot word a b c)) (sT (lS 23)) (.enu 51) 8 (h22 p x g d0 d1 d2 d3 d4 d5 d6 d7 d8 d9 (oddO o0 o1 o2 o3 o4) pl ++ G) = some (.f (fr (frL j tot word (some (iA 8)) (some (iA 2)) (some (iA 4)))), (h22 p x g d0 d1 d2 d3 d4 d5 d6 d7 d8 d9 (oddO o0 o1 o2 o3 o4) pl ++ G)) := by kernel_rfl
  have hk : listAt (h22 p x g d0 d1 d2 d3 d4 d5 d6 d7 d8 d9 (oddO o0 o1 o2 o3 o4) pl ++ G) 281 = some ((oddI o0 o1 o2 o3 o4).map fun i => iA i) := by
    rw [← oddO_map]
    kernel_rfl
  have tt := l_test (ns := ns) (j := j) (tot := tot) (word := word) (a := some (iA 8)) (one := 2) (other := 4) m (oddI_len o0 o1 o2 o3 o4) hk
  rw [l_em8, List.append_assoc _ G, List.append_assoc _ (G ++ _)] at tt
  refine ⟨(bes 2 4 (oddI o0 o1 o2 o3 o4)).map fun i => iA i, fo_turn (k := m + 100) h1 ?_⟩
  rw [show sB (lS 23) = [.If (sT fB0) [.If (sT fB1) (sB fB1) (sO fB1) (sP fB1)] (sO fB0) (sP fB0)] by kernel_rfl]
  refine ss_one (k := m + 98) ?_
  cases hE : (!o0 && !o1 && !o3) with
  | false =>
    refine (s_if_f (k := m + 98) tt hE).trans ?_
    kernel_rfl
  | true =>
    rw [hE, Bool.true_and] at h
    refine (s_if_t (k := m + 98) tt hE).trans ?_
    have t2 : ∀ G : H, ev ns lawOrc (m + 96) (.t (fr (frL j tot word (some (iA 8)) (some (iA 2)) (some (iA 4)))) (sT fB1)) (h22 p x g d0 d1 d2 d3 d4 d5 d6 d7 d8 d9 (oddO o0 o1 o2 o3 o4) pl ++ G) = some (.b (Int.fmod (d8 + sumFrom 0 [bI x.b1, bI x.b4, 0, bI x.b7, bI x.b8] - bI x.b8) 2 == 1), h22 p x g d0 d1 d2 d3 d4 d5 d6 d7 d8 d9 (oddO o0 o1 o2 o3 o4) pl ++ G) := fun G => by kernel_rfl
    refine ss_one (k := m + 96) ?_
    refine (s_if_f (k := m + 96) (t2 _) h).trans ?_
    kernel_rfl

theorem l_em9 (o0 o1 o2 o3 o4 : Bool) : nilB ((bes 3 4 (oddI o0 o1 o2 o3 o4)).map fun i => iA i) = (!o0 && !o1 && !o2) := by
  cases o0 <;> cases o1 <;> cases o2 <;> cases o3 <;> cases o4 <;> rfl
theorem l_turn9 (m : Nat) (G : H) (a b c : Option AV) (h : ((!o0 && !o1 && !o2) && (Int.fmod (d9 + sumFrom 0 [bI x.b2, bI x.b5, bI x.b7, 0, bI x.b9] - bI x.b9) 2 == 1)) = false) : ∃ R, ev ns lawOrc (m + 101) (.fo (fr (frL j tot word a b c)) (sT (lS 23)) (.enu 51) 9 (sB (lS 23))) (h22 p x g d0 d1 d2 d3 d4 d5 d6 d7 d8 d9 (oddO o0 o1 o2 o3 o4) pl ++ G) =
    ev ns lawOrc (m + 100) (.fo (fr (frL j tot word (some (iA 9)) (some (iA 3)) (some (iA 4)))) (sT (lS 23)) (.enu 51) 10 (sB (lS 23))) (h22 p x g d0 d1 d2 d3 d4 d5 d6 d7 d8 d9 (oddO o0 o1 o2 o3 o4) pl ++ (G ++ [.list R] ++ [.list []])) := by
  have h1 : foAs (ev ns lawOrc (m + 100)) (fr (frL j tot word a b c)) (sT (lS 23)) (.enu 51) 9 (h22 p x g d0 d1 d2 d3 d4 d5 d6 d7 d8 d9 (oddO o0 o1 o2 o3 o4) pl ++ G) = some (.f (fr (frL j tot word (some (iA 9)) (some (iA 3)) (some (iA 4)))), (h22 p x g d0 d1 d2 d3 d4 d5 d6 d7 d8 d9 (oddO o0 o1 o2 o3 o4) pl ++ G)) := by kernel_rfl
  have hk : listAt (h22 p x g d0 d1 d2 d3 d4 d5 d6 d7 d8 d9 (oddO o0 o1 o2 o3 o4) pl ++ G) 281 = some ((oddI o0 o1 o2 o3 o4).map fun i => iA i) := by
    rw [← oddO_map]
    kernel_rfl
  have tt := l_test (ns := ns) (j := j) (tot := tot) (word := word) (a := some (iA 9)) (one := 3) (other := 4) m (oddI_len o0 o1 o2 o3 o4) hk
  rw [l_em9, List.append_assoc _ G, List.append_assoc _ (G ++ _)] at tt
  refine ⟨(bes 3 4 (oddI o0 o1 o2 o3 o4)).map fun i => iA i, fo_turn (k := m + 100) h1 ?_⟩
  rw [show sB (lS 23) = [.If (sT fB0) [.If (sT fB1) (sB fB1) (sO fB1) (sP fB1)] (sO fB0) (sP fB0)] by kernel_rfl]
  refine ss_one (k := m + 98) ?_
  cases hE : (!o0 && !o1 && !o2) with
  | false =>
    refine (s_if_f (k := m + 98) tt hE).trans ?_
    kernel_rfl
  | true =>
    rw [hE, Bool.true_and] at h
    refine (s_if_t (k := m + 98) tt hE).trans ?_
    have t2 : ∀ G : H, ev ns lawOrc (m + 96) (.t (fr (frL j tot word (some (iA 9)) (some (iA 3)) (some (iA 4)))) (sT fB1)) (h22 p x g d0 d1 d2 d3 d4 d5 d6 d7 d8 d9 (oddO o0 o1 o2 o3 o4) pl ++ G) = some (.b (Int.fmod (d9 + sumFrom 0 [bI x.b2, bI x.b5, bI x.b7, 0, bI x.b9] - bI x.b9) 2 == 1), h22 p x g d0 d1 d2 d3 d4 d5 d6 d7 d8 d9 (oddO o0 o1 o2 o3 o4) pl ++ G) := fun G => by kernel_rfl
    refine ss_one (k := m + 96) ?_
    refine (s_if_f (k := m + 96) (t2 _) h).trans ?_
    kernel_rfl

theorem seg24 {od : List AV} (q0 q1 q2 q3 q4 q5 q6 q7 q8 q9 : List AV) (a b c : Option AV) : ∃ σ', ev ns lawOrc 120 (.s (fr (frL j tot word a b c)) (lS 24)) (h22 p x g (rd0 x) (rd1 x) (rd2 x) (rd3 x) (rd4 x) (rd5 x) (rd6 x) (rd7 x) (rd8 x) (rd9 x) od pl ++ [.list q0, .list [], .list q1, .list [], .list q2, .list [], .list q3, .list [], .list q4, .list [], .list q5, .list [], .list q6, .list [], .list q7, .list [], .list q8, .list [], .list q9, .list []]) = some (.fl (fr (frL j tot word a b c)) (.ret (.bool (eqInts (ten (rd0 x) (rd1 x) (rd2 x) (rd3 x) (rd4 x) (rd5 x) (rd6 x) (rd7 x) (rd8 x) (rd9 x)) (ten (rd0 x) (rd1 x) (rd2 x) (rd3 x) (rd4 x) (rd5 x) (rd6 x) (rd7 x) (rd8 x) (rd9 x))))), σ') :=
  ⟨(h22 p x g (rd0 x) (rd1 x) (rd2 x) (rd3 x) (rd4 x) (rd5 x) (rd6 x) (rd7 x) (rd8 x) (rd9 x) od pl ++ [.list q0, .list [], .list q1, .list [], .list q2, .list [], .list q3, .list [], .list q4, .list [], .list q5, .list [], .list q6, .list [], .list q7, .list [], .list q8, .list [], .list q9, .list []]) ++ (.list (dsL (ten (rd0 x) (rd1 x) (rd2 x) (rd3 x) (rd4 x) (rd5 x) (rd6 x) (rd7 x) (rd8 x) (rd9 x))) :: [.list [iA 2, iA 3, iA 4], .list [iA 1, iA 3, iA 4], .list [iA 1, iA 2, iA 4], .list [iA 1, iA 2, iA 3], .list [iA 0, iA 3, iA 4], .list [iA 0, iA 2, iA 4], .list [iA 0, iA 2, iA 3], .list [iA 0, iA 1, iA 4], .list [iA 0, iA 1, iA 3], .list [iA 0, iA 1, iA 2]]), by kernel_rfl⟩

end
end Mine
set_option maxRecDepth 100000
open PySem PySem.W PyProof.Rows
namespace Mine
theorem eqInts_refl : ∀ l : List Int, eqInts l l = true
  | [] => rfl
  | a :: l => by
    show ((a == a) && eqInts l l) = true
    rw [eqInts_refl l, beq_self_eq_true]; rfl
theorem in16_spec {i : Int} (h : in16 i = true) : ∃ n : Nat, i = (n : Int) ∧ n < 16 := by
  unfold in16 at h
  rw [Bool.and_eq_true] at h
  have h1 := of_decide_eq_true h.1
  have h2 := of_decide_eq_true h.2
  exact ⟨i.toNat, by omega, by omega⟩
theorem contains_le1 : ∀ (l : List Nat), (∀ n ∈ l, n < 16) → ((l.map le1).contains 80 = true ↔ 15 ∈ l)
  | [], _ => ⟨fun h => (nomatch h), fun h => (nomatch h)⟩
  | a :: l, h => by
    rw [List.map_cons, List.contains_cons, Bool.or_eq_true, contains_le1 l fun n hn => h n (List.mem_cons_of_mem _ hn), List.mem_cons, beq_iff_eq]
    have ha := h a (List.mem_cons_self ..)
    have e : (80 : UInt8) = le1 15 := by decide
    constructor
    · rintro (q | q)
      · exact .inl (le1_inj (by decide) ha (e ▸ q))
      · exact .inr q
    · rintro (q | q)
      · exact .inl (by rw [← q]; exact e)
      · exact .inr q
theorem hstep {s p q : Int} {n m : Nat} (h : s = q * (m : Int)) (hq : q = p * 16) : (n : Int) * p + s = p * ((n + 16 * m : Nat) : Int) := by
  subst hq
  rw [h, Int.natCast_add, Int.natCast_mul, Int.mul_add, Int.mul_comm (n : Int) p, Int.mul_assoc]; rfl
theorem hor (n0 n1 n2 n3 n4 n5 n6 n7 n8 n9 : Nat) : (n0 : Int) * 1 + n1 * 16 + n2 * 256 + n3 * 4096 + n4 * 65536 + n5 * 1048576 + n6 * 16777216 + n7 * 268435456 + n8 * 4294967296 + n9 * 68719476736 = ((n0 + 16 * (n1 + 16 * (n2 + 16 * (n3 + 16 * (n4 + 16 * (n5 + 16 * (n6 + 16 * (n7 + 16 * (n8 + 16 * n9)))))))) : Nat) : Int) := by
  have e8 := hstep (p := 4294967296) (n := n8) (m := n9) (Int.mul_comm (n9 : Int) 68719476736) (by decide)
  have e7 := hstep (p := 268435456) (n := n7) e8 (by decide)
  have e6 := hstep (p := 16777216) (n := n6) e7 (by decide)
  have e5 := hstep (p := 1048576) (n := n5) e6 (by decide)
  have e4 := hstep (p := 65536) (n := n4) e5 (by decide)
  have e3 := hstep (p := 4096) (n := n3) e4 (by decide)
  have e2 := hstep (p := 256) (n := n2) e3 (by decide)
  have e1 := hstep (p := 16) (n := n1) e2 (by decide)
  have e0 := hstep (p := 1) (n := n0) e1 (by decide)
  rw [Int.one_mul] at e0
  rw [← e0]
  simp only [Int.add_assoc]
theorem not_t {b : Bool} (h : (!b) = true) : b = false := by
  cases b
  · rfl
  · cases h
theorem all16 {a : Nat} {l : List Nat} (h : a < 16) (hl : ∀ n ∈ l, n < 16) : ∀ n ∈ a :: l, n < 16 := fun n hn => (List.mem_cons.mp hn).elim (fun e => e ▸ h) (hl n)
theorem st16 {a b k : Nat} (ha : a < 16) (hb : b < 16 ^ k) : a + 16 * b < 16 ^ (k + 1) := by rw [Nat.pow_succ]; omega
/-- the facts of one graph -/
structure Facts (x : B10) (T : Nat) : Prop where
  tot : totF (tiesOf x) = (T : Int)
  lt : T < 16 ^ 10
  pad : (padL (lettersOf (T : Int))).reverse = dsL (ten (rd0 x) (rd1 x) (rd2 x) (rd3 x) (rd4 x) (rd5 x) (rd6 x) (rd7 x) (rd8 x) (rd9 x))
  has : ((lettersOf (T : Int)).contains 80 != anyEq 15 (ten (rd0 x) (rd1 x) (rd2 x) (rd3 x) (rd4 x) (rd5 x) (rd6 x) (rd7 x) (rd8 x) (rd9 x))) = false
  odd : (nilB (oddO (od0 x) (od1 x) (od2 x) (od3 x) (od4 x)) == nilB (plainX0 x (rd0 x) (rd1 x) (rd2 x) (rd3 x) (rd4 x) (rd5 x) (rd6 x) (rd7 x) (rd8 x) (rd9 x))) = true

  l0 : (em0 x && pa0 x) = false
  l1 : (em1 x && pa1 x) = false
  l2 : (em2 x && pa2 x) = false
  l3 : (em3 x && pa3 x) = false
  l4 : (em4 x && pa4 x) = false
  l5 : (em5 x && pa5 x) = false
  l6 : (em6 x && pa6 x) = false
  l7 : (em7 x && pa7 x) = false
  l8 : (em8 x && pa8 x) = false
  l9 : (em9 x && pa9 x) = false
theorem facts (x : B10) : ∃ T, Facts x T := by
  have h := chk_all x
  unfold chk at h
  simp only [Bool.and_eq_true] at h
  obtain ⟨⟨⟨h1, h2⟩, h3⟩, h4⟩ := h
  obtain ⟨⟨⟨⟨⟨⟨⟨⟨⟨k0, k1⟩, k2⟩, k3⟩, k4⟩, k5⟩, k6⟩, k7⟩, k8⟩, k9⟩ := h2
  obtain ⟨⟨⟨⟨⟨⟨⟨⟨⟨m0, m1⟩, m2⟩, m3⟩, m4⟩, m5⟩, m6⟩, m7⟩, m8⟩, m9⟩ := h4
  obtain ⟨n0, e0, l0⟩ := in16_spec k0
  obtain ⟨n1, e1, l1⟩ := in16_spec k1
  obtain ⟨n2, e2, l2⟩ := in16_spec k2
  obtain ⟨n3, e3, l3⟩ := in16_spec k3
  obtain ⟨n4, e4, l4⟩ := in16_spec k4
  obtain ⟨n5, e5, l5⟩ := in16_spec k5
  obtain ⟨n6, e6, l6⟩ := in16_spec k6
  obtain ⟨n7, e7, l7⟩ := in16_spec k7
  obtain ⟨n8, e8, l8⟩ := in16_spec k8
  obtain ⟨n9, e9, l9⟩ := in16_spec k9
  have hT : totF (tiesOf x) = (((n0 + 16 * (n1 + 16 * (n2 + 16 * (n3 + 16 * (n4 + 16 * (n5 + 16 * (n6 + 16 * (n7 + 16 * (n8 + 16 * n9))))))))) : Nat) : Int) := by
    rw [totF_nat, show ((totL (tiesN x) wholeN 0 : Nat) : Int) = sumR x from eq_of_beq h1]
    unfold sumR
    rw [e0, e1, e2, e3, e4, e5, e6, e7, e8, e9]
    exact hor n0 n1 n2 n3 n4 n5 n6 n7 n8 n9
  have hlt : (n0 + 16 * (n1 + 16 * (n2 + 16 * (n3 + 16 * (n4 + 16 * (n5 + 16 * (n6 + 16 * (n7 + 16 * (n8 + 16 * n9))))))))) < 16 ^ 10 := by
    exact st16 l0 (st16 l1 (st16 l2 (st16 l3 (st16 l4 (st16 l5 (st16 l6 (st16 l7 (st16 l8 (k := 1) l9))))))))
  have hf := full_ten l0 l1 l2 l3 l4 l5 l6 l7 l8 l9 (T := (n0 + 16 * (n1 + 16 * (n2 + 16 * (n3 + 16 * (n4 + 16 * (n5 + 16 * (n6 + 16 * (n7 + 16 * (n8 + 16 * n9)))))))))) rfl
  refine ⟨(n0 + 16 * (n1 + 16 * (n2 + 16 * (n3 + 16 * (n4 + 16 * (n5 + 16 * (n6 + 16 * (n7 + 16 * (n8 + 16 * n9))))))))), hT, hlt, ?_, ?_, ?_, ?_, ?_, ?_, ?_, ?_, ?_, ?_, ?_, ?_, ?_⟩
  · unfold padL
    rw [w_pad hlt, hf, e0, e1, e2, e3, e4, e5, e6, e7, e8, e9]
    simp only [List.map_cons, List.map_nil, lvA, lv_le1 l0, lv_le1 l1, lv_le1 l2, lv_le1 l3, lv_le1 l4, lv_le1 l5, lv_le1 l6, lv_le1 l7, lv_le1 l8, lv_le1 l9]
    rfl
  · have hc : (lettersOf (((n0 + 16 * (n1 + 16 * (n2 + 16 * (n3 + 16 * (n4 + 16 * (n5 + 16 * (n6 + 16 * (n7 + 16 * (n8 + 16 * n9))))))))) : Nat) : Int)).contains 80 = anyEq 15 (ten (rd0 x) (rd1 x) (rd2 x) (rd3 x) (rd4 x) (rd5 x) (rd6 x) (rd7 x) (rd8 x) (rd9 x)) := by
      rw [← contains_rep _ (10 - (lettersOf (((n0 + 16 * (n1 + 16 * (n2 + 16 * (n3 + 16 * (n4 + 16 * (n5 + 16 * (n6 + 16 * (n7 + 16 * (n8 + 16 * n9))))))))) : Nat) : Int)).length), w_pad hlt, hf]
      rw [Bool.eq_iff_iff, anyEq_iff]
      rw [show [le1 n9, le1 n8, le1 n7, le1 n6, le1 n5, le1 n4, le1 n3, le1 n2, le1 n1, le1 n0] = [n9, n8, n7, n6, n5, n4, n3, n2, n1, n0].map le1 from rfl, contains_le1]
      · rw [e0, e1, e2, e3, e4, e5, e6, e7, e8, e9]
        show 15 ∈ [n0, n1, n2, n3, n4, n5, n6, n7, n8, n9].reverse ↔ (15 : Int) ∈ List.map (fun n : Nat => (n : Int)) [n0, n1, n2, n3, n4, n5, n6, n7, n8, n9]
        rw [List.mem_reverse, List.mem_map]
        exact ⟨fun h => ⟨15, h, rfl⟩, fun ⟨a, h, e⟩ => by have : a = 15 := Int.ofNat.inj e; exact this ▸ h⟩
      · exact all16 l9 (all16 l8 (all16 l7 (all16 l6 (all16 l5 (all16 l4 (all16 l3 (all16 l2 (all16 l1 (all16 l0 fun _ h => (nomatch h))))))))))
    rw [hc]
    simp
  · have ho : nilB (oddO (od0 x) (od1 x) (od2 x) (od3 x) (od4 x)) = noOdd x := by
      unfold oddO
      simp only [apB_nil]
      rfl
    have hp : nilB (plainX0 x (rd0 x) (rd1 x) (rd2 x) (rd3 x) (rd4 x) (rd5 x) (rd6 x) (rd7 x) (rd8 x) (rd9 x)) = noPl x := by
      unfold plainX0
      simp only [apB_nil]
      rfl
    rw [ho, hp]
    exact h3
  · exact not_t m0
  · exact not_t m1
  · exact not_t m2
  · exact not_t m3
  · exact not_t m4
  · exact not_t m5
  · exact not_t m6
  · exact not_t m7
  · exact not_t m8
  · exact not_t m9
theorem apB_IsI_odd (o0 o1 o2 o3 o4 : Bool) : IsI (oddO o0 o1 o2 o3 o4) := apB_I (apB_I (apB_I (apB_I (apB_I ⟨[], rfl⟩))))
theorem apB_IsI_plain (x : B10) (d0 d1 d2 d3 d4 d5 d6 d7 d8 d9 : Int) : IsI (plainX0 x d0 d1 d2 d3 d4 d5 d6 d7 d8 d9) := apB_I (apB_I (apB_I (apB_I (apB_I (apB_I (apB_I (apB_I (apB_I (apB_I ⟨[], rfl⟩)))))))))
section
variable {ns : List Int} {p : HQ} {x : B10} {j : LJ} {T : Nat}
set_option maxHeartbeats 4000000 in
/-- statements 15 to 24 -/
theorem law_tail (h : Facts x T) : ∃ f' σ', ev ns lawOrc 130 (.ss (fr (frC j (some (totK T)) none none none none)) [lS 15, lS 16, lS 17, lS 18, lS 19, lS 20, lS 21, lS 22, lS 23, lS 24]) (hC p x) = some (.fl f' (.ret (.bool true)), σ') := by
  have e18 := seg18 (ns := ns) (p := p) (x := x) (j := j) (T := T) (w_len h.lt)
  rw [h.pad] at e18
  let tot : Option AV := some (totK T)
  let word : Option AV := some (.bytes (lettersOf (T : Int)) 31)
  let od : List AV := oddO (od0 x) (od1 x) (od2 x) (od3 x) (od4 x)
  let pl : List AV := plainX0 x (rd0 x) (rd1 x) (rd2 x) (rd3 x) (rd4 x) (rd5 x) (rd6 x) (rd7 x) (rd8 x) (rd9 x)
  let g := padL (lettersOf (T : Int))

  obtain ⟨R0, t0⟩ := l_turn0 (ns := ns) (p := p) (x := x) (j := j) (tot := tot) (word := word) (g := g) (pl := pl) (o0 := od0 x) (o1 := od1 x) (o2 := od2 x) (o3 := od3 x) (o4 := od4 x) (d0 := rd0 x) (d1 := rd1 x) (d2 := rd2 x) (d3 := rd3 x) (d4 := rd4 x) (d5 := rd5 x) (d6 := rd6 x) (d7 := rd7 x) (d8 := rd8 x) (d9 := rd9 x) 19 [] j.at_ j.one j.other h.l0
  obtain ⟨R1, t1⟩ := l_turn1 (ns := ns) (p := p) (x := x) (j := j) (tot := tot) (word := word) (g := g) (pl := pl) (o0 := od0 x) (o1 := od1 x) (o2 := od2 x) (o3 := od3 x) (o4 := od4 x) (d0 := rd0 x) (d1 := rd1 x) (d2 := rd2 x) (d3 := rd3 x) (d4 := rd4 x) (d5 := rd5 x) (d6 := rd6 x) (d7 := rd7 x) (d8 := rd8 x) (d9 := rd9 x) 18 ([] ++ [AO.list R0] ++ [AO.list []]) (some (iA 0)) (some (iA 0)) (some (iA 1)) h.l1
  obtain ⟨R2, t2⟩ := l_turn2 (ns := ns) (p := p) (x := x) (j := j) (tot := tot) (word := word) (g := g) (pl := pl) (o0 := od0 x) (o1 := od1 x) (o2 := od2 x) (o3 := od3 x) (o4 := od4 x) (d0 := rd0 x) (d1 := rd1 x) (d2 := rd2 x) (d3 := rd3 x) (d4 := rd4 x) (d5 := rd5 x) (d6 := rd6 x) (d7 := rd7 x) (d8 := rd8 x) (d9 := rd9 x) 17 (([] ++ [AO.list R0] ++ [AO.list []]) ++ [AO.list R1] ++ [AO.list []]) (some (iA 1)) (some (iA 0)) (some (iA 2)) h.l2
  obtain ⟨R3, t3⟩ := l_turn3 (ns := ns) (p := p) (x := x) (j := j) (tot := tot) (word := word) (g := g) (pl := pl) (o0 := od0 x) (o1 := od1 x) (o2 := od2 x) (o3 := od3 x) (o4 := od4 x) (d0 := rd0 x) (d1 := rd1 x) (d2 := rd2 x) (d3 := rd3 x) (d4 := rd4 x) (d5 := rd5 x) (d6 := rd6 x) (d7 := rd7 x) (d8 := rd8 x) (d9 := rd9 x) 16 ((([] ++ [AO.list R0] ++ [AO.list []]) ++ [AO.list R1] ++ [AO.list []]) ++ [AO.list R2] ++ [AO.list []]) (some (iA 2)) (some (iA 0)) (some (iA 3)) h.l3
  obtain ⟨R4, t4⟩ := l_turn4 (ns := ns) (p := p) (x := x) (j := j) (tot := tot) (word := word) (g := g) (pl := pl) (o0 := od0 x) (o1 := od1 x) (o2 := od2 x) (o3 := od3 x) (o4 := od4 x) (d0 := rd0 x) (d1 := rd1 x) (d2 := rd2 x) (d3 := rd3 x) (d4 := rd4 x) (d5 := rd5 x) (d6 := rd6 x) (d7 := rd7 x) (d8 := rd8 x) (d9 := rd9 x) 15 (((([] ++ [AO.list R0] ++ [AO.list []]) ++ [AO.list R1] ++ [AO.list []]) ++ [AO.list R2] ++ [AO.list []]) ++ [AO.list R3] ++ [AO.list []]) (some (iA 3)) (some (iA 0)) (some (iA 4)) h.l4
  obtain ⟨R5, t5⟩ := l_turn5 (ns := ns) (p := p) (x := x) (j := j) (tot := tot) (word := word) (g := g) (pl := pl) (o0 := od0 x) (o1 := od1 x) (o2 := od2 x) (o3 := od3 x) (o4 := od4 x) (d0 := rd0 x) (d1 := rd1 x) (d2 := rd2 x) (d3 := rd3 x) (d4 := rd4 x) (d5 := rd5 x) (d6 := rd6 x) (d7 := rd7 x) (d8 := rd8 x) (d9 := rd9 x) 14 ((((([] ++ [AO.list R0] ++ [AO.list []]) ++ [AO.list R1] ++ [AO.list []]) ++ [AO.list R2] ++ [AO.list []]) ++ [AO.list R3] ++ [AO.list []]) ++ [AO.list R4] ++ [AO.list []]) (some (iA 4)) (some (iA 1)) (some (iA 2)) h.l5
  obtain ⟨R6, t6⟩ := l_turn6 (ns := ns) (p := p) (x := x) (j := j) (tot := tot) (word := word) (g := g) (pl := pl) (o0 := od0 x) (o1 := od1 x) (o2 := od2 x) (o3 := od3 x) (o4 := od4 x) (d0 := rd0 x) (d1 := rd1 x) (d2 := rd2 x) (d3 := rd3 x) (d4 := rd4 x) (d5 := rd5 x) (d6 := rd6 x) (d7 := rd7 x) (d8 := rd8 x) (d9 := rd9 x) 13 (((((([] ++ [AO.list R0] ++ [AO.list []]) ++ [AO.list R1] ++ [AO.list []]) ++ [AO.list R2] ++ [AO.list []]) ++ [AO.list R3] ++ [AO.list []]) ++ [AO.list R4] ++ [AO.list []]) ++ [AO.list R5] ++ [AO.list []]) (some (iA 5)) (some (iA 1)) (some (iA 3)) h.l6
  obtain ⟨R7, t7⟩ := l_turn7 (ns := ns) (p := p) (x := x) (j := j) (tot := tot) (word := word) (g := g) (pl := pl) (o0 := od0 x) (o1 := od1 x) (o2 := od2 x) (o3 := od3 x) (o4 := od4 x) (d0 := rd0 x) (d1 := rd1 x) (d2 := rd2 x) (d3 := rd3 x) (d4 := rd4 x) (d5 := rd5 x) (d6 := rd6 x) (d7 := rd7 x) (d8 := rd8 x) (d9 := rd9 x) 12 ((((((([] ++ [AO.list R0] ++ [AO.list []]) ++ [AO.list R1] ++ [AO.list []]) ++ [AO.list R2] ++ [AO.list []]) ++ [AO.list R3] ++ [AO.list []]) ++ [AO.list R4] ++ [AO.list []]) ++ [AO.list R5] ++ [AO.list []]) ++ [AO.list R6] ++ [AO.list []]) (some (iA 6)) (some (iA 1)) (some (iA 4)) h.l7
  obtain ⟨R8, t8⟩ := l_turn8 (ns := ns) (p := p) (x := x) (j := j) (tot := tot) (word := word) (g := g) (pl := pl) (o0 := od0 x) (o1 := od1 x) (o2 := od2 x) (o3 := od3 x) (o4 := od4 x) (d0 := rd0 x) (d1 := rd1 x) (d2 := rd2 x) (d3 := rd3 x) (d4 := rd4 x) (d5 := rd5 x) (d6 := rd6 x) (d7 := rd7 x) (d8 := rd8 x) (d9 := rd9 x) 11 (((((((([] ++ [AO.list R0] ++ [AO.list []]) ++ [AO.list R1] ++ [AO.list []]) ++ [AO.list R2] ++ [AO.list []]) ++ [AO.list R3] ++ [AO.list []]) ++ [AO.list R4] ++ [AO.list []]) ++ [AO.list R5] ++ [AO.list []]) ++ [AO.list R6] ++ [AO.list []]) ++ [AO.list R7] ++ [AO.list []]) (some (iA 7)) (some (iA 2)) (some (iA 3)) h.l8
  obtain ⟨R9, t9⟩ := l_turn9 (ns := ns) (p := p) (x := x) (j := j) (tot := tot) (word := word) (g := g) (pl := pl) (o0 := od0 x) (o1 := od1 x) (o2 := od2 x) (o3 := od3 x) (o4 := od4 x) (d0 := rd0 x) (d1 := rd1 x) (d2 := rd2 x) (d3 := rd3 x) (d4 := rd4 x) (d5 := rd5 x) (d6 := rd6 x) (d7 := rd7 x) (d8 := rd8 x) (d9 := rd9 x) 10 ((((((((([] ++ [AO.list R0] ++ [AO.list []]) ++ [AO.list R1] ++ [AO.list []]) ++ [AO.list R2] ++ [AO.list []]) ++ [AO.list R3] ++ [AO.list []]) ++ [AO.list R4] ++ [AO.list []]) ++ [AO.list R5] ++ [AO.list []]) ++ [AO.list R6] ++ [AO.list []]) ++ [AO.list R7] ++ [AO.list []]) ++ [AO.list R8] ++ [AO.list []]) (some (iA 8)) (some (iA 2)) (some (iA 4)) h.l9
  have hfo : ev ns lawOrc 120 (.fo (fr (frE j tot word)) (sT (lS 23)) (.enu 51) 0 (sB (lS 23))) (h22 p x g (rd0 x) (rd1 x) (rd2 x) (rd3 x) (rd4 x) (rd5 x) (rd6 x) (rd7 x) (rd8 x) (rd9 x) od pl) = some (.fl (fr (frL j tot word (some (iA 9)) (some (iA 3)) (some (iA 4)))) .next, h22 p x g (rd0 x) (rd1 x) (rd2 x) (rd3 x) (rd4 x) (rd5 x) (rd6 x) (rd7 x) (rd8 x) (rd9 x) od pl ++ [.list R0, .list [], .list R1, .list [], .list R2, .list [], .list R3, .list [], .list R4, .list [], .list R5, .list [], .list R6, .list [], .list R7, .list [], .list R8, .list [], .list R9, .list []]) := by
    have ee : ev ns lawOrc 120 (.fo (fr (frE j tot word)) (sT (lS 23)) (.enu 51) 0 (sB (lS 23))) (h22 p x g (rd0 x) (rd1 x) (rd2 x) (rd3 x) (rd4 x) (rd5 x) (rd6 x) (rd7 x) (rd8 x) (rd9 x) od pl) = ev ns lawOrc (19 + 101) (.fo (fr (frL j tot word j.at_ j.one j.other)) (sT (lS 23)) (.enu 51) 0 (sB (lS 23))) (h22 p x g (rd0 x) (rd1 x) (rd2 x) (rd3 x) (rd4 x) (rd5 x) (rd6 x) (rd7 x) (rd8 x) (rd9 x) od pl ++ []) := by rw [List.append_nil]; rfl
    refine ee.trans (t0.trans (t1.trans (t2.trans (t3.trans (t4.trans (t5.trans (t6.trans (t7.trans (t8.trans (t9.trans ?_))))))))))
    refine (fo_end (k := 109) (by kernel_rfl)).trans ?_
    kernel_rfl
  obtain ⟨σ', e24⟩ := seg24 (ns := ns) (p := p) (x := x) (j := j) (tot := tot) (word := word) (g := g) (pl := pl) (od := od) R0 R1 R2 R3 R4 R5 R6 R7 R8 R9 (some (iA 9)) (some (iA 3)) (some (iA 4))
  rw [eqInts_refl] at e24
  refine ⟨fr (frL j tot word (some (iA 9)) (some (iA 3)) (some (iA 4))), σ', ?_⟩
  refine (ss_cons (k := 129) seg15).trans ?_
  refine (ss_cons (k := 128) (seg16 (w_head h.lt) (w_non h.lt))).trans ?_
  refine (ss_cons (k := 127) (seg17 h.lt)).trans ?_
  refine (ss_cons (k := 126) e18).trans ?_
  refine (ss_cons (k := 125) (seg19 h.has)).trans ?_
  refine (ss_cons (k := 124) (seg20 (g := g))).trans ?_
  refine (ss_cons (k := 123) seg21).trans ?_
  refine (ss_cons (k := 122) (seg22 (apB_IsI_odd _ _ _ _ _) (apB_IsI_plain _ _ _ _ _ _ _ _ _ _ _) h.odd)).trans ?_
  have e23 : ev ns lawOrc 121 (.s (fr (frE j tot word)) (lS 23)) (h22 p x g (rd0 x) (rd1 x) (rd2 x) (rd3 x) (rd4 x) (rd5 x) (rd6 x) (rd7 x) (rd8 x) (rd9 x) od pl) = some (.fl (fr (frL j tot word (some (iA 9)) (some (iA 3)) (some (iA 4)))) .next, h22 p x g (rd0 x) (rd1 x) (rd2 x) (rd3 x) (rd4 x) (rd5 x) (rd6 x) (rd7 x) (rd8 x) (rd9 x) od pl ++ [.list R0, .list [], .list R1, .list [], .list R2, .list [], .list R3, .list [], .list R4, .list [], .list R5, .list [], .list R6, .list [], .list R7, .list [], .list R8, .list [], .list R9, .list []]) := by
    rw [show lS 23 = .For (sT (lS 23)) (sX (lS 23)) (sB (lS 23)) [] (sP (lS 23)) by kernel_rfl]
    exact (s_for (k := 120) (s := .enu 51) (by kernel_rfl)).trans hfo
  refine (ss_cons (k := 121) e23).trans ?_
  exact ss_ret (k := 120) e24

end
section
variable {C : Cx}
theorem fdm (a : Int) {n : Nat} (h : 0 < n) : ∃ r : Nat, r < n ∧ ∃ q : Int, a = n * q + r := by
  refine ⟨(a % n).toNat, ?_, a / n, ?_⟩
  · have := Int.emod_lt_of_pos a (by omega : (0 : Int) < n)
    omega
  · have h1 := Int.emod_nonneg a (by omega : (n : Int) ≠ 0)
    have h2 := Int.mul_ediv_add_emod a n
    omega
/-- THE LAW's body returns True -/
theorem law_body (S : SF C) : ∃ f' σ', Mean C 275 (.ss (fr ⟨none, none, none, none, none, none, none, none, none, none, none, none, none, none, none, none, none, none, none, none, none, none, none, none, none, none⟩) lB) [] (.fl f' (.ret (.bool true))) σ' := by
  have hO := lawOrc_ok S
  let i0 := nth3 0 C.ns
  let i1 := nth3 1 C.ns
  let i2 := nth3 2 C.ns
  let a : Int := 252 + sumFrom 0 i0
  let a1 : Int := 0 + sumFrom 0 i1
  let a2 : Int := 0 + sumFrom 0 i2
  obtain ⟨m, hm, hq⟩ := fdm a (n := 4) (by decide)
  obtain ⟨r, hr, hq'⟩ := fdm a2 (n := 7) (by decide)
  let x := bits m a
  obtain ⟨T, hF⟩ := facts x
  let c0 : AV := .int a (.res 4 m)
  let tl : List AV := [iA 0, iA (2 ^ (Int.fmod (namedI a) 10).toNat), .int (namedI a) (.lt 1024), .int (namedI a) (.lt 1024)]
  obtain ⟨⟨w1, w2, w3, w4, w5, w6, w7, w8⟩, e7⟩ := seg7 (ns := C.ns) (i0 := i0) (i1 := i1) (i2 := i2) hr x c0 a1 a2 (sl4 (startB a) 0) (sl4 (startB a) 1) (sl4 (startB a) 2) (sl4 (startB a) 3) tl (lS 8 :: lS 9 :: ([lS 10, lS 11, lS 12, lS 13] ++ [lS 14]))
  obtain ⟨u1, u2, u3, u4, e14⟩ := seg14 (ns := C.ns) (c0 := c0) (a1 := a1) (a2 := a2) (T := tiesOf x) (r := r) (i0 := i0) (i1 := i1) (i2 := i2) (x := x) (s0 := sl4 (startB a) 0) (s1 := sl4 (startB a) 1) (s2 := sl4 (startB a) 2) (s3 := sl4 (startB a) 3) (t := tl) (v1 := w1) (v2 := w2) (v3 := w3) (v4 := w4) (v5 := w5) (v6 := w6) (v7 := w7) (v8 := w8) (m := m) (a := a) rfl []
  let p : HQ := ⟨c0, a1, a2, r, i0, i1, i2, sl4 (startB a) 0, sl4 (startB a) 1, sl4 (startB a) 2, sl4 (startB a) 3, tl, tiesOf x⟩
  let j : LJ := ⟨u1, w2, w3, some (iA (tiesOf x)), w4, w5, w6, w7, w8, u2, u3, u4⟩
  obtain ⟨f', σ', et⟩ := law_tail (ns := C.ns) (p := p) (x := x) (j := j) hF
  have mt : Mean C 260 (.ss (fr (frC j (some (totK T)) none none none none)) [lS 15, lS 16, lS 17, lS 18, lS 19, lS 20, lS 21, lS 22, lS 23, lS 24]) (hC p x) (.fl f' (.ret (.bool true))) σ' :=
    snd_ev S (N := 130) (by decide) hO 130 _ _ _ _ et
  have mt' : Mean C 260 (.ss (fr (frR w1 w2 w3 w4 w5 w6 w7 w8 (tiesOf x) u1 u2 u3 u4 (totF (tiesOf x)))) [lS 15, lS 16, lS 17, lS 18, lS 19, lS 20, lS 21, lS 22, lS 23, lS 24]) (hC p x) (.fl f' (.ret (.bool true))) σ' := by
    refine M_le ?_ LeH.rfl mt
    refine LeF.one (a := iA (totF (tiesOf x))) (b := totK T) 19 rfl (LeV.int hF.tot fun _ => ?_)
    show (0 : Int) ≤ totF (tiesOf x) ∧ totF (tiesOf x) ≤ 1099511627776
    rw [hF.tot]
    have := hF.lt
    have h16 : (16 : Nat) ^ 10 = 1099511627776 := by decide
    omega
  have es : ev C.ns lawOrc 141 (.ss (fr { seen := none, alone := none }) ([lS 4, lS 5, lS 6] ++ (lS 7 :: lS 8 :: lS 9 :: ([lS 10, lS 11, lS 12, lS 13] ++ [lS 14])))) (hP c0 (iA a1) (.int a2 (.res 7 r)) i0 i1 i2) =
      some (.fl (fr (frR w1 w2 w3 w4 w5 w6 w7 w8 (tiesOf x) u1 u2 u3 u4 (totF (tiesOf x)))) .next, hC p x) :=
    (seg4 hm _).trans (e7.trans (e14.trans (ss_nil (k := 129))))
  have m2 := M_app S (N := 130) (by decide) hO [lS 4, lS 5, lS 6, lS 7, lS 8, lS 9, lS 10, lS 11, lS 12, lS 13, lS 14] [lS 15, lS 16, lS 17, lS 18, lS 19, lS 20, lS 21, lS 22, lS 23, lS 24] 129 _ _ es mt'
  have m3 : Mean C 271 (.ss (fr { seen := none, alone := none }) ([lS 4, lS 5, lS 6, lS 7, lS 8, lS 9, lS 10, lS 11, lS 12, lS 13, lS 14] ++ [lS 15, lS 16, lS 17, lS 18, lS 19, lS 20, lS 21, lS 22, lS 23, lS 24])) (hP (iA a) (iA a1) (iA a2) i0 i1 i2) (.fl f' (.ret (.bool true))) σ' := by
    refine M_le LeF.rfl ?_ m2
    refine LeH.one (a := .list [iA a, iA a1, iA a2]) (b := .list [c0, iA a1, .int a2 (.res 7 r)]) 1 rfl (LeA.list ⟨LeV.int rfl fun _ => hq, LeV.rfl, LeV.int rfl fun _ => hq', trivial⟩)
  have m4 := M_app S (N := 130) (by decide) hO [lS 0, lS 1, lS 2, lS 3] _ 140 _ _ (segA (ns := C.ns)) m3
  rw [show lB = [lS 0, lS 1, lS 2, lS 3] ++ ([lS 4, lS 5, lS 6, lS 7, lS 8, lS 9, lS 10, lS 11, lS 12, lS 13, lS 14] ++ [lS 15, lS 16, lS 17, lS 18, lS 19, lS 20, lS 21, lS 22, lS 23, lS 24]) by kernel_rfl]
  exact ⟨f', σ', m4⟩
/-- THE LAW, called with the script, returns True -/
theorem law_call (S : SF C) : ∃ σ', Mean C 276 (.ca 22 [.scr]) [] (.v (.bool true)) σ' := by
  obtain ⟨f', σ', m⟩ := law_body S
  rw [show lB = (fnD 22).body by kernel_rfl] at m
  exact ⟨σ', M_ca S (fn := fnD 22) (by kernel_rfl) (by kernel_rfl) (by kernel_rfl) (by kernel_rfl) m⟩
end
end Mine
set_option maxRecDepth 100000
open PySem PySem.W PySem.Calls PyProof.Rows
namespace MineH
noncomputable section
noncomputable abbrev pwH : Program := PySem.Challenge.pw_yf0003_01
noncomputable def stK (k : Nat) : Stmt := match pwH.main.body[k]? with
  | some s => s
  | none => .Pass ⟨0, 0, 0, 0⟩
noncomputable def fnP (k : Nat) : Arguments := match stK k with
  | .FunctionDef _ a _ _ _ _ _ _ _ _ => a
  | _ => ⟨[], [], none, [], [], none, []⟩
noncomputable def fnB (k : Nat) : List Stmt := match stK k with
  | .FunctionDef _ _ b _ _ _ _ _ _ _ => b
  | _ => []
noncomputable def fnS (k : Nat) : Scope := match stK k with
  | .FunctionDef _ _ _ _ _ _ sc _ _ _ => sc
  | _ => { kind := .function, names := [], isGenerator := false, isCoroutine := false, more := [] }
noncomputable def hlife : Life := {}
noncomputable def ob0 (_ : Params) : Obj := ⟨(.type "tuple"), none, .seq #[] 0, #[]⟩
noncomputable def ob1 (_ : Params) : Obj := ⟨.none, none, .fields #[], #[]⟩
noncomputable def ob2 (_ : Params) : Obj := ⟨(.type "code"), none, .fields #[(.str (.ofString "<module>") 182), (.str (.ofString "<module>") 183), (.str (.ofString "/claim/cut.py") 184), (.int 1 0), (.int 0 0), (.int 0 0), (.int 0 0), (.int 0 0), (.ref 11), (.bool false), (.int 181 0), (.ref 12), .none, .none, .none, .none, (.int 185 0), (.int 1 0), (.str (.ofString "/claim/cut.py") 186)], #[]⟩
noncomputable def ob3 (_ : Params) : Obj := ⟨(.type "frame"), none, .plain, #[(some (.ref 13)), (some (.ref 3)), (some (.ref 3)), none, (some (.str (.ofString "__main__") 164)), none, (some (.ref 0))]⟩
noncomputable def sAH (P : Params) : Heap := ⟨Array.mk [boot_o_0 P, boot_o_1 P, boot_o_2 P, boot_o_3 P, boot_o_4 P, boot_o_5 P, boot_o_6 P, boot_o_7 P, boot_o_8 P, boot_o_9 P, boot_o_10 P, ob0 P, ob1 P, ob2 P, ob3 P], hlife⟩
noncomputable def sA (w : World) (os : OsState) : Shared := ⟨sAH w.params, Array.mk [], ⟨0, 0, 0, 0⟩, 187, os⟩
noncomputable def sBT (P : Params) : BT := (.node (boot_o_0 P) (.node (boot_o_1 P) (.node (boot_o_3 P) (.node (boot_o_7 P) .nil .nil) (.node (ob0 P) .nil .nil)) (.node (boot_o_5 P) (.node (boot_o_9 P) .nil .nil) (.node (ob2 P) .nil .nil))) (.node (boot_o_2 P) (.node (boot_o_4 P) (.node (boot_o_8 P) .nil .nil) (.node (ob1 P) .nil .nil)) (.node (boot_o_6 P) (.node (boot_o_10 P) .nil .nil) (.node (ob3 P) .nil .nil))))
noncomputable def sB (w : World) (os : OsState) : SharedT := ⟨sBT w.params, 15, hlife, Array.mk [], ⟨0, 0, 0, 0⟩, 187, os⟩
noncomputable def ob4 (P : Params) : Obj := ⟨(.type "dict"), none, .dict #[⟨PyData.keyHash P (.ofString "__name__"), (.str (.ofString "__name__") 165), (.str (.ofString "cpy313.stringprep") 255)⟩, ⟨PyData.keyHash P (.ofString "__doc__"), (.str (.ofString "__doc__") 166), .none⟩, ⟨PyData.keyHash P (.ofString "__package__"), (.str (.ofString "__package__") 167), .none⟩, ⟨PyData.keyHash P (.ofString "__loader__"), (.str (.ofString "__loader__") 168), (.builtin "__main__.__loader__#opaque")⟩, ⟨PyData.keyHash P (.ofString "__spec__"), (.str (.ofString "__spec__") 169), .none⟩, ⟨PyData.keyHash P (.ofString "__annotations__"), (.str (.ofString "__annotations__") 170), (.ref 6)⟩, ⟨PyData.keyHash P (.ofString "__builtins__"), (.str (.ofString "__builtins__") 171), (.ref 4)⟩, ⟨PyData.keyHash P (.ofString "__file__"), (.str (.ofString "__file__") 173), (.str (.ofString "/claim/cut.py") 172)⟩, ⟨PyData.keyHash P (.ofString "__cached__"), (.str (.ofString "__cached__") 174), .none⟩, ⟨PyData.keyHash P (.ofString "not_"), (.str (.ofString "not_") 195), (.ref 21)⟩, ⟨PyData.keyHash P (.ofString "is_not"), (.str (.ofString "is_not") 203), (.ref 28)⟩, ⟨PyData.keyHash P (.ofString "and_"), (.str (.ofString "and_") 211), (.ref 35)⟩, ⟨PyData.keyHash P (.ofString "inv"), (.str (.ofString "inv") 218), (.ref 42)⟩, ⟨PyData.keyHash P (.ofString "contains"), (.str (.ofString "contains") 226), (.ref 49)⟩, ⟨PyData.keyHash P (.ofString "iadd"), (.str (.ofString "iadd") 234), (.ref 56)⟩, ⟨PyData.keyHash P (.ofString "ilshift"), (.str (.ofString "ilshift") 242), (.ref 63)⟩, ⟨PyData.keyHash P (.ofString "Int2AP"), (.str (.ofString "Int2AP") 254), (.ref 70)⟩] 17, #[]⟩
noncomputable def ob5 (_ : Params) : Obj := ⟨.none, none, .fields #[(.int 2 0), (.int 0 0), (.ref 20), (.int 4 0), (.int 0 0), (.ref 27), (.int 6 0), (.int 0 0), (.ref 34), (.int 8 0), (.int 0 0), (.ref 41), (.int 10 0), (.int 0 0), (.ref 48), (.int 12 0), (.int 0 0), (.ref 55), (.int 15 0), (.int 0 0), (.ref 62), (.int 19 0), (.int 0 0), (.ref 69)], #[]⟩
noncomputable def ob6 (_ : Params) : Obj := ⟨(.type "tuple"), none, .seq #[] 0, #[]⟩
noncomputable def ob7 (_ : Params) : Obj := ⟨.none, none, .fields #[], #[]⟩
noncomputable def ob8 (_ : Params) : Obj := ⟨(.type "tuple"), none, .seq #[(.str (.ofString "a") 192)] 0, #[]⟩
noncomputable def ob9 (_ : Params) : Obj := ⟨(.type "tuple"), none, .seq #[] 0, #[]⟩
noncomputable def ob10 (_ : Params) : Obj := ⟨.none, none, .func { name := (.ofString "not_"), qualname := (.ofString "not_"), params := fnP 1, body := .stmts (fnB 1), scope := fnS 1, globals := 0, closure := [], defaults := .none, kwdefaults := .none, doc := .none, pyModule := .none, annotations := none, code := .none, closureTuple := .none, builtins := 0 }, #[]⟩
noncomputable def ob11 (_ : Params) : Obj := ⟨(.type "code"), none, .fields #[(.str (.ofString "not_") 189), (.str (.ofString "not_") 190), (.str (.ofString "/claim/cut.py") 191), (.int 2 0), (.int 1 0), (.int 0 0), (.int 0 0), (.int 3 0), (.ref 15), (.bool true), (.int 181 0), (.ref 16), .none, (.ref 17), (.ref 18), (.ref 19), (.int 193 0), (.int 2 0), (.str (.ofString "/claim/cut.py") 194)], #[]⟩
noncomputable def ob12 (_ : Params) : Obj := ⟨(.type "function"), none, .func { name := (.ofString "not_"), qualname := (.ofString "not_"), params := fnP 1, body := .stmts (fnB 1), scope := fnS 1, globals := 3, closure := [], defaults := .none, kwdefaults := .none, doc := .none, pyModule := (.str (.ofString "cpy313.operator") 187), annotations := none, code := (.ref 20), closureTuple := .none, builtins := 0 }, #[]⟩
noncomputable def ob13 (_ : Params) : Obj := ⟨(.type "tuple"), none, .seq #[] 0, #[]⟩
noncomputable def ob14 (_ : Params) : Obj := ⟨.none, none, .fields #[], #[]⟩
noncomputable def ob15 (_ : Params) : Obj := ⟨(.type "tuple"), none, .seq #[(.str (.ofString "a") 199), (.str (.ofString "b") 200)] 0, #[]⟩
noncomputable def ob16 (_ : Params) : Obj := ⟨(.type "tuple"), none, .seq #[] 0, #[]⟩
noncomputable def ob17 (_ : Params) : Obj := ⟨.none, none, .func { name := (.ofString "is_not"), qualname := (.ofString "is_not"), params := fnP 2, body := .stmts (fnB 2), scope := fnS 2, globals := 0, closure := [], defaults := .none, kwdefaults := .none, doc := .none, pyModule := .none, annotations := none, code := .none, closureTuple := .none, builtins := 0 }, #[]⟩
noncomputable def ob18 (_ : Params) : Obj := ⟨(.type "code"), none, .fields #[(.str (.ofString "is_not") 196), (.str (.ofString "is_not") 197), (.str (.ofString "/claim/cut.py") 198), (.int 4 0), (.int 2 0), (.int 0 0), (.int 0 0), (.int 3 0), (.ref 22), (.bool true), (.int 181 0), (.ref 23), .none, (.ref 24), (.ref 25), (.ref 26), (.int 201 0), (.int 4 0), (.str (.ofString "/claim/cut.py") 202)], #[]⟩
noncomputable def ob19 (_ : Params) : Obj := ⟨(.type "function"), none, .func { name := (.ofString "is_not"), qualname := (.ofString "is_not"), params := fnP 2, body := .stmts (fnB 2), scope := fnS 2, globals := 3, closure := [], defaults := .none, kwdefaults := .none, doc := .none, pyModule := (.str (.ofString "cpy313.operator") 187), annotations := none, code := (.ref 27), closureTuple := .none, builtins := 0 }, #[]⟩
noncomputable def ob20 (_ : Params) : Obj := ⟨(.type "tuple"), none, .seq #[] 0, #[]⟩
noncomputable def ob21 (_ : Params) : Obj := ⟨.none, none, .fields #[], #[]⟩
noncomputable def ob22 (_ : Params) : Obj := ⟨(.type "tuple"), none, .seq #[(.str (.ofString "a") 207), (.str (.ofString "b") 208)] 0, #[]⟩
noncomputable def ob23 (_ : Params) : Obj := ⟨(.type "tuple"), none, .seq #[] 0, #[]⟩
noncomputable def ob24 (_ : Params) : Obj := ⟨.none, none, .func { name := (.ofString "and_"), qualname := (.ofString "and_"), params := fnP 3, body := .stmts (fnB 3), scope := fnS 3, globals := 0, closure := [], defaults := .none, kwdefaults := .none, doc := .none, pyModule := .none, annotations := none, code := .none, closureTuple := .none, builtins := 0 }, #[]⟩
noncomputable def ob25 (_ : Params) : Obj := ⟨(.type "code"), none, .fields #[(.str (.ofString "and_") 204), (.str (.ofString "and_") 205), (.str (.ofString "/claim/cut.py") 206), (.int 6 0), (.int 2 0), (.int 0 0), (.int 0 0), (.int 3 0), (.ref 29), (.bool true), (.int 181 0), (.ref 30), .none, (.ref 31), (.ref 32), (.ref 33), (.int 209 0), (.int 6 0), (.str (.ofString "/claim/cut.py") 210)], #[]⟩
noncomputable def ob26 (_ : Params) : Obj := ⟨(.type "function"), none, .func { name := (.ofString "and_"), qualname := (.ofString "and_"), params := fnP 3, body := .stmts (fnB 3), scope := fnS 3, globals := 3, closure := [], defaults := .none, kwdefaults := .none, doc := .none, pyModule := (.str (.ofString "cpy313.operator") 187), annotations := none, code := (.ref 34), closureTuple := .none, builtins := 0 }, #[]⟩
noncomputable def ob27 (_ : Params) : Obj := ⟨(.type "tuple"), none, .seq #[] 0, #[]⟩
noncomputable def ob28 (_ : Params) : Obj := ⟨.none, none, .fields #[], #[]⟩
noncomputable def ob29 (_ : Params) : Obj := ⟨(.type "tuple"), none, .seq #[(.str (.ofString "a") 215)] 0, #[]⟩
noncomputable def ob30 (_ : Params) : Obj := ⟨(.type "tuple"), none, .seq #[] 0, #[]⟩
noncomputable def ob31 (_ : Params) : Obj := ⟨.none, none, .func { name := (.ofString "inv"), qualname := (.ofString "inv"), params := fnP 4, body := .stmts (fnB 4), scope := fnS 4, globals := 0, closure := [], defaults := .none, kwdefaults := .none, doc := .none, pyModule := .none, annotations := none, code := .none, closureTuple := .none, builtins := 0 }, #[]⟩
noncomputable def ob32 (_ : Params) : Obj := ⟨(.type "code"), none, .fields #[(.str (.ofString "inv") 212), (.str (.ofString "inv") 213), (.str (.ofString "/claim/cut.py") 214), (.int 8 0), (.int 1 0), (.int 0 0), (.int 0 0), (.int 3 0), (.ref 36), (.bool true), (.int 181 0), (.ref 37), .none, (.ref 38), (.ref 39), (.ref 40), (.int 216 0), (.int 8 0), (.str (.ofString "/claim/cut.py") 217)], #[]⟩
noncomputable def ob33 (_ : Params) : Obj := ⟨(.type "function"), none, .func { name := (.ofString "inv"), qualname := (.ofString "inv"), params := fnP 4, body := .stmts (fnB 4), scope := fnS 4, globals := 3, closure := [], defaults := .none, kwdefaults := .none, doc := .none, pyModule := (.str (.ofString "cpy313.operator") 187), annotations := none, code := (.ref 41), closureTuple := .none, builtins := 0 }, #[]⟩
noncomputable def ob34 (_ : Params) : Obj := ⟨(.type "tuple"), none, .seq #[] 0, #[]⟩
noncomputable def ob35 (_ : Params) : Obj := ⟨.none, none, .fields #[], #[]⟩
noncomputable def ob36 (_ : Params) : Obj := ⟨(.type "tuple"), none, .seq #[(.str (.ofString "a") 222), (.str (.ofString "b") 223)] 0, #[]⟩
noncomputable def ob37 (_ : Params) : Obj := ⟨(.type "tuple"), none, .seq #[] 0, #[]⟩
noncomputable def ob38 (_ : Params) : Obj := ⟨.none, none, .func { name := (.ofString "contains"), qualname := (.ofString "contains"), params := fnP 5, body := .stmts (fnB 5), scope := fnS 5, globals := 0, closure := [], defaults := .none, kwdefaults := .none, doc := .none, pyModule := .none, annotations := none, code := .none, closureTuple := .none, builtins := 0 }, #[]⟩
noncomputable def ob39 (_ : Params) : Obj := ⟨(.type "code"), none, .fields #[(.str (.ofString "contains") 219), (.str (.ofString "contains") 220), (.str (.ofString "/claim/cut.py") 221), (.int 10 0), (.int 2 0), (.int 0 0), (.int 0 0), (.int 3 0), (.ref 43), (.bool true), (.int 181 0), (.ref 44), .none, (.ref 45), (.ref 46), (.ref 47), (.int 224 0), (.int 10 0), (.str (.ofString "/claim/cut.py") 225)], #[]⟩
noncomputable def ob40 (_ : Params) : Obj := ⟨(.type "function"), none, .func { name := (.ofString "contains"), qualname := (.ofString "contains"), params := fnP 5, body := .stmts (fnB 5), scope := fnS 5, globals := 3, closure := [], defaults := .none, kwdefaults := .none, doc := .none, pyModule := (.str (.ofString "cpy313.operator") 187), annotations := none, code := (.ref 48), closureTuple := .none, builtins := 0 }, #[]⟩
noncomputable def ob41 (_ : Params) : Obj := ⟨(.type "tuple"), none, .seq #[] 0, #[]⟩
noncomputable def ob42 (_ : Params) : Obj := ⟨.none, none, .fields #[], #[]⟩
noncomputable def ob43 (_ : Params) : Obj := ⟨(.type "tuple"), none, .seq #[(.str (.ofString "a") 230), (.str (.ofString "b") 231)] 0, #[]⟩
noncomputable def ob44 (_ : Params) : Obj := ⟨(.type "tuple"), none, .seq #[] 0, #[]⟩
noncomputable def ob45 (_ : Params) : Obj := ⟨.none, none, .func { name := (.ofString "iadd"), qualname := (.ofString "iadd"), params := fnP 6, body := .stmts (fnB 6), scope := fnS 6, globals := 0, closure := [], defaults := .none, kwdefaults := .none, doc := .none, pyModule := .none, annotations := none, code := .none, closureTuple := .none, builtins := 0 }, #[]⟩
noncomputable def ob46 (_ : Params) : Obj := ⟨(.type "code"), none, .fields #[(.str (.ofString "iadd") 227), (.str (.ofString "iadd") 228), (.str (.ofString "/claim/cut.py") 229), (.int 12 0), (.int 2 0), (.int 0 0), (.int 0 0), (.int 3 0), (.ref 50), (.bool true), (.int 181 0), (.ref 51), .none, (.ref 52), (.ref 53), (.ref 54), (.int 232 0), (.int 12 0), (.str (.ofString "/claim/cut.py") 233)], #[]⟩
noncomputable def ob47 (_ : Params) : Obj := ⟨(.type "function"), none, .func { name := (.ofString "iadd"), qualname := (.ofString "iadd"), params := fnP 6, body := .stmts (fnB 6), scope := fnS 6, globals := 3, closure := [], defaults := .none, kwdefaults := .none, doc := .none, pyModule := (.str (.ofString "cpy313.operator") 187), annotations := none, code := (.ref 55), closureTuple := .none, builtins := 0 }, #[]⟩
noncomputable def ob48 (_ : Params) : Obj := ⟨(.type "tuple"), none, .seq #[] 0, #[]⟩
noncomputable def ob49 (_ : Params) : Obj := ⟨.none, none, .fields #[], #[]⟩
noncomputable def ob50 (_ : Params) : Obj := ⟨(.type "tuple"), none, .seq #[(.str (.ofString "a") 238), (.str (.ofString "b") 239)] 0, #[]⟩
noncomputable def ob51 (_ : Params) : Obj := ⟨(.type "tuple"), none, .seq #[] 0, #[]⟩
noncomputable def ob52 (_ : Params) : Obj := ⟨.none, none, .func { name := (.ofString "ilshift"), qualname := (.ofString "ilshift"), params := fnP 7, body := .stmts (fnB 7), scope := fnS 7, globals := 0, closure := [], defaults := .none, kwdefaults := .none, doc := .none, pyModule := .none, annotations := none, code := .none, closureTuple := .none, builtins := 0 }, #[]⟩
noncomputable def ob53 (_ : Params) : Obj := ⟨(.type "code"), none, .fields #[(.str (.ofString "ilshift") 235), (.str (.ofString "ilshift") 236), (.str (.ofString "/claim/cut.py") 237), (.int 15 0), (.int 2 0), (.int 0 0), (.int 0 0), (.int 3 0), (.ref 57), (.bool true), (.int 181 0), (.ref 58), .none, (.ref 59), (.ref 60), (.ref 61), (.int 240 0), (.int 15 0), (.str (.ofString "/claim/cut.py") 241)], #[]⟩
noncomputable def ob54 (_ : Params) : Obj := ⟨(.type "function"), none, .func { name := (.ofString "ilshift"), qualname := (.ofString "ilshift"), params := fnP 7, body := .stmts (fnB 7), scope := fnS 7, globals := 3, closure := [], defaults := .none, kwdefaults := .none, doc := .none, pyModule := (.str (.ofString "cpy313.operator") 187), annotations := none, code := (.ref 62), closureTuple := .none, builtins := 0 }, #[]⟩
noncomputable def ob55 (_ : Params) : Obj := ⟨(.type "tuple"), none, .seq #[] 0, #[]⟩
noncomputable def ob56 (_ : Params) : Obj := ⟨.none, none, .fields #[], #[]⟩
noncomputable def ob57 (_ : Params) : Obj := ⟨(.type "tuple"), none, .seq #[(.str (.ofString "num") 248), (.str (.ofString "val") 249), (.str (.ofString "AP") 250), (.str (.ofString "mod") 251)] 0, #[]⟩
noncomputable def ob58 (_ : Params) : Obj := ⟨(.type "tuple"), none, .seq #[] 0, #[]⟩
noncomputable def ob59 (_ : Params) : Obj := ⟨.none, none, .func { name := (.ofString "Int2AP"), qualname := (.ofString "Int2AP"), params := fnP 9, body := .stmts (fnB 9), scope := fnS 9, globals := 0, closure := [], defaults := .none, kwdefaults := .none, doc := .none, pyModule := .none, annotations := none, code := .none, closureTuple := .none, builtins := 0 }, #[]⟩
noncomputable def ob60 (_ : Params) : Obj := ⟨(.type "code"), none, .fields #[(.str (.ofString "Int2AP") 245), (.str (.ofString "Int2AP") 246), (.str (.ofString "/claim/cut.py") 247), (.int 19 0), (.int 1 0), (.int 0 0), (.int 0 0), (.int 3 0), (.ref 64), (.bool true), (.int 181 0), (.ref 65), .none, (.ref 66), (.ref 67), (.ref 68), (.int 252 0), (.int 19 0), (.str (.ofString "/claim/cut.py") 253)], #[]⟩
noncomputable def ob61 (_ : Params) : Obj := ⟨(.type "function"), none, .func { name := (.ofString "Int2AP"), qualname := (.ofString "Int2AP"), params := fnP 9, body := .stmts (fnB 9), scope := fnS 9, globals := 3, closure := [], defaults := .none, kwdefaults := .none, doc := .none, pyModule := (.str (.ofString "cpy313.imaplib") 243), annotations := none, code := (.ref 69), closureTuple := .none, builtins := 0 }, #[]⟩
noncomputable def sP11T (P : Params) : BT := (.node (boot_o_0 P) (.node (boot_o_1 P) (.node (ob4 P) (.node (boot_o_7 P) (.node (ob6 P) (.node (ob22 P) (.node (ob54 P) .nil .nil) .nil) (.node (ob38 P) .nil .nil)) (.node (ob14 P) (.node (ob30 P) .nil .nil) (.node (ob46 P) .nil .nil))) (.node (ob0 P) (.node (ob10 P) (.node (ob26 P) (.node (ob58 P) .nil .nil) .nil) (.node (ob42 P) .nil .nil)) (.node (ob18 P) (.node (ob34 P) .nil .nil) (.node (ob50 P) .nil .nil)))) (.node (boot_o_5 P) (.node (boot_o_9 P) (.node (ob8 P) (.node (ob24 P) (.node (ob56 P) .nil .nil) .nil) (.node (ob40 P) .nil .nil)) (.node (ob16 P) (.node (ob32 P) .nil .nil) (.node (ob48 P) .nil .nil))) (.node (ob2 P) (.node (ob12 P) (.node (ob28 P) (.node (ob60 P) .nil .nil) .nil) (.node (ob44 P) .nil .nil)) (.node (ob20 P) (.node (ob36 P) .nil .nil) (.node (ob52 P) .nil .nil))))) (.node (boot_o_2 P) (.node (boot_o_4 P) (.node (boot_o_8 P) (.node (ob7 P) (.node (ob23 P) (.node (ob55 P) .nil .nil) .nil) (.node (ob39 P) .nil .nil)) (.node (ob15 P) (.node (ob31 P) .nil .nil) (.node (ob47 P) .nil .nil))) (.node (ob5 P) (.node (ob11 P) (.node (ob27 P) (.node (ob59 P) .nil .nil) .nil) (.node (ob43 P) .nil .nil)) (.node (ob19 P) (.node (ob35 P) .nil .nil) (.node (ob51 P) .nil .nil)))) (.node (boot_o_6 P) (.node (boot_o_10 P) (.node (ob9 P) (.node (ob25 P) (.node (ob57 P) .nil .nil) .nil) (.node (ob41 P) .nil .nil)) (.node (ob17 P) (.node (ob33 P) .nil .nil) (.node (ob49 P) .nil .nil))) (.node (ob3 P) (.node (ob13 P) (.node (ob29 P) (.node (ob61 P) .nil .nil) .nil) (.node (ob45 P) .nil .nil)) (.node (ob21 P) (.node (ob37 P) .nil .nil) (.node (ob53 P) .nil .nil))))))
noncomputable def sP11 (w : World) (os : OsState) : SharedT := ⟨sP11T w.params, 71, hlife, Array.mk [], ⟨0, 0, 0, 0⟩, 257, os⟩
noncomputable def sts0 : List Stmt := [stK 0, stK 1, stK 2, stK 3, stK 4, stK 5, stK 6, stK 7, stK 8, stK 9, stK 10]
noncomputable def ob62 (P : Params) : Obj := ⟨(.type "dict"), none, .dict #[⟨PyData.keyHash P (.ofString "__name__"), (.str (.ofString "__name__") 165), (.str (.ofString "cpy313.stringprep") 255)⟩, ⟨PyData.keyHash P (.ofString "__doc__"), (.str (.ofString "__doc__") 166), .none⟩, ⟨PyData.keyHash P (.ofString "__package__"), (.str (.ofString "__package__") 167), .none⟩, ⟨PyData.keyHash P (.ofString "__loader__"), (.str (.ofString "__loader__") 168), (.builtin "__main__.__loader__#opaque")⟩, ⟨PyData.keyHash P (.ofString "__spec__"), (.str (.ofString "__spec__") 169), .none⟩, ⟨PyData.keyHash P (.ofString "__annotations__"), (.str (.ofString "__annotations__") 170), (.ref 6)⟩, ⟨PyData.keyHash P (.ofString "__builtins__"), (.str (.ofString "__builtins__") 171), (.ref 4)⟩, ⟨PyData.keyHash P (.ofString "__file__"), (.str (.ofString "__file__") 173), (.str (.ofString "/claim/cut.py") 172)⟩, ⟨PyData.keyHash P (.ofString "__cached__"), (.str (.ofString "__cached__") 174), .none⟩, ⟨PyData.keyHash P (.ofString "not_"), (.str (.ofString "not_") 195), (.ref 21)⟩, ⟨PyData.keyHash P (.ofString "is_not"), (.str (.ofString "is_not") 203), (.ref 28)⟩, ⟨PyData.keyHash P (.ofString "and_"), (.str (.ofString "and_") 211), (.ref 35)⟩, ⟨PyData.keyHash P (.ofString "inv"), (.str (.ofString "inv") 218), (.ref 42)⟩, ⟨PyData.keyHash P (.ofString "contains"), (.str (.ofString "contains") 226), (.ref 49)⟩, ⟨PyData.keyHash P (.ofString "iadd"), (.str (.ofString "iadd") 234), (.ref 56)⟩, ⟨PyData.keyHash P (.ofString "ilshift"), (.str (.ofString "ilshift") 242), (.ref 63)⟩, ⟨PyData.keyHash P (.ofString "Int2AP"), (.str (.ofString "Int2AP") 254), (.ref 70)⟩, ⟨PyData.keyHash P (.ofString "b1_set"), (.str (.ofString "b1_set") 316), (.ref 78)⟩] 18, #[]⟩
noncomputable def ob63 (_ : Params) : Obj := ⟨(.type "list"), none, .seq #[(.int 173 257), (.int 847 258), (.int 6150 259), (.int 6155 260), (.int 6156 261), (.int 6157 262), (.int 8203 263), (.int 8204 264), (.int 8205 265), (.int 8288 266), (.int 65279 267)] 0, #[]⟩
noncomputable def ob64 (_ : Params) : Obj := ⟨(.type "range"), none, .fields #[(.int 65024 268), (.int 65040 269), (.int 1 270)], #[]⟩
noncomputable def ob65 (_ : Params) : Obj := ⟨(.type "list"), none, .seq #[(.int 65024 273), (.int 65025 274), (.int 65026 275), (.int 65027 276), (.int 65028 277), (.int 65029 278), (.int 65030 279), (.int 65031 280), (.int 65032 281), (.int 65033 282), (.int 65034 283), (.int 65035 284), (.int 65036 285), (.int 65037 286), (.int 65038 287), (.int 65039 288)] 18, #[]⟩
noncomputable def ob66 (_ : Params) : Obj := ⟨(.type "range_iterator"), none, .fields #[(.int 65040 0), (.int 0 0), (.int 1 0)], #[]⟩
noncomputable def ob67 (_ : Params) : Obj := ⟨(.type "tuple"), none, .seq #[] 0, #[]⟩
noncomputable def ob68 (_ : Params) : Obj := ⟨(.type "StopIteration"), none, .fields #[(.ref 75), .none, .none, .none, (.bool false), .none], #[]⟩
noncomputable def ob69 (_ : Params) : Obj := ⟨(.type "list"), none, .seq #[(.int 173 257), (.int 847 258), (.int 6150 259), (.int 6155 260), (.int 6156 261), (.int 6157 262), (.int 8203 263), (.int 8204 264), (.int 8205 265), (.int 8288 266), (.int 65279 267), (.int 65024 273), (.int 65025 274), (.int 65026 275), (.int 65027 276), (.int 65028 277), (.int 65029 278), (.int 65030 279), (.int 65031 280), (.int 65032 281), (.int 65033 282), (.int 65034 283), (.int 65035 284), (.int 65036 285), (.int 65037 286), (.int 65038 287), (.int 65039 288)] 0, #[]⟩
noncomputable def ob70 (P : Params) : Obj := ⟨(.type "set"), none, .set #[(65024, (.int 65024 273)), (65025, (.int 65025 274)), (65026, (.int 65026 275)), (65027, (.int 65027 276)), (65028, (.int 65028 277)), (65029, (.int 65029 278)), (6150, (.int 6150 259)), (65030, (.int 65030 279)), (65031, (.int 65031 280)), (65032, (.int 65032 281)), (65033, (.int 65033 282)), (6155, (.int 6155 260)), (6156, (.int 6156 261)), (6157, (.int 6157 262)), (8203, (.int 8203 263)), (8204, (.int 8204 264)), (8205, (.int 8205 265)), (65034, (.int 65034 283)), (65035, (.int 65035 284)), (65036, (.int 65036 285)), (65037, (.int 65037 286)), (65038, (.int 65038 287)), (65039, (.int 65039 288)), (173, (.int 173 257)), (847, (.int 847 258)), (8288, (.int 8288 266)), (65279, (.int 65279 267))] 29 { mask := 127, place := #[0, 1, 2, 3, 4, 5, 6, 7, 8, 9, 10, 11, 12, 13, 14, 15, 16, 17, 18, 19, 20, 21, 22, 45, 79, 96, 127], dummies := #[], finger := 0, led := !(P.followText "set-order"), moves := 2, plain := true }, #[]⟩
noncomputable def ob71 (_ : Params) : Obj := ⟨(.type "list_iterator"), none, .fields #[.none, (.int 27 0)], #[]⟩
noncomputable def ob72 (_ : Params) : Obj := ⟨(.type "tuple"), none, .seq #[] 0, #[]⟩
noncomputable def ob73 (_ : Params) : Obj := ⟨(.type "StopIteration"), none, .fields #[(.ref 80), .none, .none, .none, (.bool false), .none], #[]⟩
noncomputable def sP12T (P : Params) : BT := (.node (boot_o_0 P) (.node (boot_o_1 P) (.node (ob62 P) (.node (boot_o_7 P) (.node (ob6 P) (.node (ob22 P) (.node (ob54 P) .nil .nil) .nil) (.node (ob38 P) (.node (ob71 P) .nil .nil) .nil)) (.node (ob14 P) (.node (ob30 P) (.node (ob63 P) .nil .nil) .nil) (.node (ob46 P) .nil .nil))) (.node (ob0 P) (.node (ob10 P) (.node (ob26 P) (.node (ob58 P) .nil .nil) .nil) (.node (ob42 P) .nil .nil)) (.node (ob18 P) (.node (ob34 P) (.node (ob67 P) .nil .nil) .nil) (.node (ob50 P) .nil .nil)))) (.node (boot_o_5 P) (.node (boot_o_9 P) (.node (ob8 P) (.node (ob24 P) (.node (ob56 P) .nil .nil) .nil) (.node (ob40 P) (.node (ob73 P) .nil .nil) .nil)) (.node (ob16 P) (.node (ob32 P) (.node (ob65 P) .nil .nil) .nil) (.node (ob48 P) .nil .nil))) (.node (ob2 P) (.node (ob12 P) (.node (ob28 P) (.node (ob60 P) .nil .nil) .nil) (.node (ob44 P) .nil .nil)) (.node (ob20 P) (.node (ob36 P) (.node (ob69 P) .nil .nil) .nil) (.node (ob52 P) .nil .nil))))) (.node (boot_o_2 P) (.node (boot_o_4 P) (.node (boot_o_8 P) (.node (ob7 P) (.node (ob23 P) (.node (ob55 P) .nil .nil) .nil) (.node (ob39 P) (.node (ob72 P) .nil .nil) .nil)) (.node (ob15 P) (.node (ob31 P) (.node (ob64 P) .nil .nil) .nil) (.node (ob47 P) .nil .nil))) (.node (ob5 P) (.node (ob11 P) (.node (ob27 P) (.node (ob59 P) .nil .nil) .nil) (.node (ob43 P) .nil .nil)) (.node (ob19 P) (.node (ob35 P) (.node (ob68 P) .nil .nil) .nil) (.node (ob51 P) .nil .nil)))) (.node (boot_o_6 P) (.node (boot_o_10 P) (.node (ob9 P) (.node (ob25 P) (.node (ob57 P) .nil .nil) .nil) (.node (ob41 P) .nil .nil)) (.node (ob17 P) (.node (ob33 P) (.node (ob66 P) .nil .nil) .nil) (.node (ob49 P) .nil .nil))) (.node (ob3 P) (.node (ob13 P) (.node (ob29 P) (.node (ob61 P) .nil .nil) .nil) (.node (ob45 P) .nil .nil)) (.node (ob21 P) (.node (ob37 P) (.node (ob70 P) .nil .nil) .nil) (.node (ob53 P) .nil .nil))))))
noncomputable def sP12 (w : World) (os : OsState) : SharedT := ⟨sP12T w.params, 82, hlife, Array.mk [], ⟨0, 0, 0, 0⟩, 317, os⟩
noncomputable def sts11 : List Stmt := [stK 11]
noncomputable def ob74 (P : Params) : Obj := ⟨(.type "dict"), none, .dict #[⟨PyData.keyHash P (.ofString "__name__"), (.str (.ofString "__name__") 165), (.str (.ofString "cpy313.stringprep") 255)⟩, ⟨PyData.keyHash P (.ofString "__doc__"), (.str (.ofString "__doc__") 166), .none⟩, ⟨PyData.keyHash P (.ofString "__package__"), (.str (.ofString "__package__") 167), .none⟩, ⟨PyData.keyHash P (.ofString "__loader__"), (.str (.ofString "__loader__") 168), (.builtin "__main__.__loader__#opaque")⟩, ⟨PyData.keyHash P (.ofString "__spec__"), (.str (.ofString "__spec__") 169), .none⟩, ⟨PyData.keyHash P (.ofString "__annotations__"), (.str (.ofString "__annotations__") 170), (.ref 6)⟩, ⟨PyData.keyHash P (.ofString "__builtins__"), (.str (.ofString "__builtins__") 171), (.ref 4)⟩, ⟨PyData.keyHash P (.ofString "__file__"), (.str (.ofString "__file__") 173), (.str (.ofString "/claim/cut.py") 172)⟩, ⟨PyData.keyHash P (.ofString "__cached__"), (.str (.ofString "__cached__") 174), .none⟩, ⟨PyData.keyHash P (.ofString "not_"), (.str (.ofString "not_") 195), (.ref 21)⟩, ⟨PyData.keyHash P (.ofString "is_not"), (.str (.ofString "is_not") 203), (.ref 28)⟩, ⟨PyData.keyHash P (.ofString "and_"), (.str (.ofString "and_") 211), (.ref 35)⟩, ⟨PyData.keyHash P (.ofString "inv"), (.str (.ofString "inv") 218), (.ref 42)⟩, ⟨PyData.keyHash P (.ofString "contains"), (.str (.ofString "contains") 226), (.ref 49)⟩, ⟨PyData.keyHash P (.ofString "iadd"), (.str (.ofString "iadd") 234), (.ref 56)⟩, ⟨PyData.keyHash P (.ofString "ilshift"), (.str (.ofString "ilshift") 242), (.ref 63)⟩, ⟨PyData.keyHash P (.ofString "Int2AP"), (.str (.ofString "Int2AP") 254), (.ref 70)⟩, ⟨PyData.keyHash P (.ofString "b1_set"), (.str (.ofString "b1_set") 316), (.ref 78)⟩, ⟨PyData.keyHash P (.ofString "in_table_b1"), (.str (.ofString "in_table_b1") 323), (.ref 88)⟩, ⟨PyData.keyHash P (.ofString "in_table_c11"), (.str (.ofString "in_table_c11") 330), (.ref 95)⟩, ⟨PyData.keyHash P (.ofString "in_table_c4"), (.str (.ofString "in_table_c4") 338), (.ref 102)⟩, ⟨PyData.keyHash P (.ofString "c6_set"), (.str (.ofString "c6_set") 352), (.ref 104)⟩, ⟨PyData.keyHash P (.ofString "in_table_c6"), (.str (.ofString "in_table_c6") 359), (.ref 114)⟩] 23, #[]⟩
noncomputable def ob75 (_ : Params) : Obj := ⟨.none, none, .fields #[(.int 2 0), (.int 0 0), (.ref 20), (.int 4 0), (.int 0 0), (.ref 27), (.int 6 0), (.int 0 0), (.ref 34), (.int 8 0), (.int 0 0), (.ref 41), (.int 10 0), (.int 0 0), (.ref 48), (.int 12 0), (.int 0 0), (.ref 55), (.int 15 0), (.int 0 0), (.ref 62), (.int 19 0), (.int 0 0), (.ref 69), (.int 29 0), (.int 0 0), (.ref 87), (.int 31 0), (.int 0 0), (.ref 94), (.int 33 0), (.int 0 0), (.ref 101), (.int 41 0), (.int 0 0), (.ref 113)], #[]⟩
noncomputable def ob76 (_ : Params) : Obj := ⟨(.type "tuple"), none, .seq #[] 0, #[]⟩
noncomputable def ob77 (_ : Params) : Obj := ⟨.none, none, .fields #[], #[]⟩
noncomputable def ob78 (_ : Params) : Obj := ⟨(.type "tuple"), none, .seq #[(.str (.ofString "code") 320)] 0, #[]⟩
noncomputable def ob79 (_ : Params) : Obj := ⟨(.type "tuple"), none, .seq #[] 0, #[]⟩
noncomputable def ob80 (_ : Params) : Obj := ⟨.none, none, .func { name := (.ofString "in_table_b1"), qualname := (.ofString "in_table_b1"), params := fnP 12, body := .stmts (fnB 12), scope := fnS 12, globals := 0, closure := [], defaults := .none, kwdefaults := .none, doc := .none, pyModule := .none, annotations := none, code := .none, closureTuple := .none, builtins := 0 }, #[]⟩
noncomputable def ob81 (_ : Params) : Obj := ⟨(.type "code"), none, .fields #[(.str (.ofString "in_table_b1") 317), (.str (.ofString "in_table_b1") 318), (.str (.ofString "/claim/cut.py") 319), (.int 29 0), (.int 1 0), (.int 0 0), (.int 0 0), (.int 3 0), (.ref 82), (.bool true), (.int 181 0), (.ref 83), .none, (.ref 84), (.ref 85), (.ref 86), (.int 321 0), (.int 29 0), (.str (.ofString "/claim/cut.py") 322)], #[]⟩
noncomputable def ob82 (_ : Params) : Obj := ⟨(.type "function"), none, .func { name := (.ofString "in_table_b1"), qualname := (.ofString "in_table_b1"), params := fnP 12, body := .stmts (fnB 12), scope := fnS 12, globals := 3, closure := [], defaults := .none, kwdefaults := .none, doc := .none, pyModule := (.str (.ofString "cpy313.stringprep") 255), annotations := none, code := (.ref 87), closureTuple := .none, builtins := 0 }, #[]⟩
noncomputable def ob83 (_ : Params) : Obj := ⟨(.type "tuple"), none, .seq #[] 0, #[]⟩
noncomputable def ob84 (_ : Params) : Obj := ⟨.none, none, .fields #[], #[]⟩
noncomputable def ob85 (_ : Params) : Obj := ⟨(.type "tuple"), none, .seq #[(.str (.ofString "code") 327)] 0, #[]⟩
noncomputable def ob86 (_ : Params) : Obj := ⟨(.type "tuple"), none, .seq #[] 0, #[]⟩
noncomputable def ob87 (_ : Params) : Obj := ⟨.none, none, .func { name := (.ofString "in_table_c11"), qualname := (.ofString "in_table_c11"), params := fnP 13, body := .stmts (fnB 13), scope := fnS 13, globals := 0, closure := [], defaults := .none, kwdefaults := .none, doc := .none, pyModule := .none, annotations := none, code := .none, closureTuple := .none, builtins := 0 }, #[]⟩
noncomputable def ob88 (_ : Params) : Obj := ⟨(.type "code"), none, .fields #[(.str (.ofString "in_table_c11") 324), (.str (.ofString "in_table_c11") 325), (.str (.ofString "/claim/cut.py") 326), (.int 31 0), (.int 1 0), (.int 0 0), (.int 0 0), (.int 3 0), (.ref 89), (.bool true), (.int 181 0), (.ref 90), .none, (.ref 91), (.ref 92), (.ref 93), (.int 328 0), (.int 31 0), (.str (.ofString "/claim/cut.py") 329)], #[]⟩
noncomputable def ob89 (_ : Params) : Obj := ⟨(.type "function"), none, .func { name := (.ofString "in_table_c11"), qualname := (.ofString "in_table_c11"), params := fnP 13, body := .stmts (fnB 13), scope := fnS 13, globals := 3, closure := [], defaults := .none, kwdefaults := .none, doc := .none, pyModule := (.str (.ofString "cpy313.stringprep") 255), annotations := none, code := (.ref 94), closureTuple := .none, builtins := 0 }, #[]⟩
noncomputable def ob90 (_ : Params) : Obj := ⟨(.type "tuple"), none, .seq #[] 0, #[]⟩
noncomputable def ob91 (_ : Params) : Obj := ⟨.none, none, .fields #[], #[]⟩
noncomputable def ob92 (_ : Params) : Obj := ⟨(.type "tuple"), none, .seq #[(.str (.ofString "code") 334), (.str (.ofString "c") 335)] 0, #[]⟩
noncomputable def ob93 (_ : Params) : Obj := ⟨(.type "tuple"), none, .seq #[] 0, #[]⟩
noncomputable def ob94 (_ : Params) : Obj := ⟨.none, none, .func { name := (.ofString "in_table_c4"), qualname := (.ofString "in_table_c4"), params := fnP 14, body := .stmts (fnB 14), scope := fnS 14, globals := 0, closure := [], defaults := .none, kwdefaults := .none, doc := .none, pyModule := .none, annotations := none, code := .none, closureTuple := .none, builtins := 0 }, #[]⟩
noncomputable def ob95 (_ : Params) : Obj := ⟨(.type "code"), none, .fields #[(.str (.ofString "in_table_c4") 331), (.str (.ofString "in_table_c4") 332), (.str (.ofString "/claim/cut.py") 333), (.int 33 0), (.int 1 0), (.int 0 0), (.int 0 0), (.int 3 0), (.ref 96), (.bool true), (.int 181 0), (.ref 97), .none, (.ref 98), (.ref 99), (.ref 100), (.int 336 0), (.int 33 0), (.str (.ofString "/claim/cut.py") 337)], #[]⟩
noncomputable def ob96 (_ : Params) : Obj := ⟨(.type "function"), none, .func { name := (.ofString "in_table_c4"), qualname := (.ofString "in_table_c4"), params := fnP 14, body := .stmts (fnB 14), scope := fnS 14, globals := 3, closure := [], defaults := .none, kwdefaults := .none, doc := .none, pyModule := (.str (.ofString "cpy313.stringprep") 255), annotations := none, code := (.ref 101), closureTuple := .none, builtins := 0 }, #[]⟩
noncomputable def ob97 (_ : Params) : Obj := ⟨(.type "range"), none, .fields #[(.int 65529 339), (.int 65534 340), (.int 1 341)], #[]⟩
noncomputable def ob98 (P : Params) : Obj := ⟨(.type "set"), none, .set #[(65529, (.int 65529 342)), (65530, (.int 65530 344)), (65531, (.int 65531 346)), (65532, (.int 65532 348)), (65533, (.int 65533 350))] 6 { mask := 31, place := #[25, 26, 27, 28, 29], dummies := #[], finger := 0, led := !(P.followText "set-order"), moves := 1, plain := true }, #[]⟩
noncomputable def ob99 (_ : Params) : Obj := ⟨(.type "range_iterator"), none, .fields #[(.int 65534 0), (.int 0 0), (.int 1 0)], #[]⟩
noncomputable def ob100 (_ : Params) : Obj := ⟨(.type "tuple"), none, .seq #[] 0, #[]⟩
noncomputable def ob101 (_ : Params) : Obj := ⟨(.type "StopIteration"), none, .fields #[(.ref 106), .none, .none, .none, (.bool false), .none], #[]⟩
noncomputable def ob102 (_ : Params) : Obj := ⟨(.type "tuple"), none, .seq #[] 0, #[]⟩
noncomputable def ob103 (_ : Params) : Obj := ⟨.none, none, .fields #[], #[]⟩
noncomputable def ob104 (_ : Params) : Obj := ⟨(.type "tuple"), none, .seq #[(.str (.ofString "code") 356)] 0, #[]⟩
noncomputable def ob105 (_ : Params) : Obj := ⟨(.type "tuple"), none, .seq #[] 0, #[]⟩
noncomputable def ob106 (_ : Params) : Obj := ⟨.none, none, .func { name := (.ofString "in_table_c6"), qualname := (.ofString "in_table_c6"), params := fnP 16, body := .stmts (fnB 16), scope := fnS 16, globals := 0, closure := [], defaults := .none, kwdefaults := .none, doc := .none, pyModule := .none, annotations := none, code := .none, closureTuple := .none, builtins := 0 }, #[]⟩
noncomputable def ob107 (_ : Params) : Obj := ⟨(.type "code"), none, .fields #[(.str (.ofString "in_table_c6") 353), (.str (.ofString "in_table_c6") 354), (.str (.ofString "/claim/cut.py") 355), (.int 41 0), (.int 1 0), (.int 0 0), (.int 0 0), (.int 3 0), (.ref 108), (.bool true), (.int 181 0), (.ref 109), .none, (.ref 110), (.ref 111), (.ref 112), (.int 357 0), (.int 41 0), (.str (.ofString "/claim/cut.py") 358)], #[]⟩
noncomputable def ob108 (_ : Params) : Obj := ⟨(.type "function"), none, .func { name := (.ofString "in_table_c6"), qualname := (.ofString "in_table_c6"), params := fnP 16, body := .stmts (fnB 16), scope := fnS 16, globals := 3, closure := [], defaults := .none, kwdefaults := .none, doc := .none, pyModule := (.str (.ofString "cpy313.stringprep") 255), annotations := none, code := (.ref 113), closureTuple := .none, builtins := 0 }, #[]⟩
noncomputable def sP17T (P : Params) : BT := (.node (boot_o_0 P) (.node (boot_o_1 P) (.node (ob74 P) (.node (boot_o_7 P) (.node (ob6 P) (.node (ob22 P) (.node (ob54 P) .nil .nil) (.node (ob89 P) .nil .nil)) (.node (ob38 P) (.node (ob71 P) .nil .nil) (.node (ob105 P) .nil .nil))) (.node (ob14 P) (.node (ob30 P) (.node (ob63 P) .nil .nil) (.node (ob97 P) .nil .nil)) (.node (ob46 P) (.node (ob81 P) .nil .nil) .nil))) (.node (ob0 P) (.node (ob10 P) (.node (ob26 P) (.node (ob58 P) .nil .nil) (.node (ob93 P) .nil .nil)) (.node (ob42 P) (.node (ob77 P) .nil .nil) .nil)) (.node (ob18 P) (.node (ob34 P) (.node (ob67 P) .nil .nil) (.node (ob101 P) .nil .nil)) (.node (ob50 P) (.node (ob85 P) .nil .nil) .nil)))) (.node (boot_o_5 P) (.node (boot_o_9 P) (.node (ob8 P) (.node (ob24 P) (.node (ob56 P) .nil .nil) (.node (ob91 P) .nil .nil)) (.node (ob40 P) (.node (ob73 P) .nil .nil) (.node (ob107 P) .nil .nil))) (.node (ob16 P) (.node (ob32 P) (.node (ob65 P) .nil .nil) (.node (ob99 P) .nil .nil)) (.node (ob48 P) (.node (ob83 P) .nil .nil) .nil))) (.node (ob2 P) (.node (ob12 P) (.node (ob28 P) (.node (ob60 P) .nil .nil) (.node (ob95 P) .nil .nil)) (.node (ob44 P) (.node (ob79 P) .nil .nil) .nil)) (.node (ob20 P) (.node (ob36 P) (.node (ob69 P) .nil .nil) (.node (ob103 P) .nil .nil)) (.node (ob52 P) (.node (ob87 P) .nil .nil) .nil))))) (.node (boot_o_2 P) (.node (boot_o_4 P) (.node (boot_o_8 P) (.node (ob7 P) (.node (ob23 P) (.node (ob55 P) .nil .nil) (.node (ob90 P) .nil .nil)) (.node (ob39 P) (.node (ob72 P) .nil .nil) (.node (ob106 P) .nil .nil))) (.node (ob15 P) (.node (ob31 P) (.node (ob64 P) .nil .nil) (.node (ob98 P) .nil .nil)) (.node (ob47 P) (.node (ob82 P) .nil .nil) .nil))) (.node (ob75 P) (.node (ob11 P) (.node (ob27 P) (.node (ob59 P) .nil .nil) (.node (ob94 P) .nil .nil)) (.node (ob43 P) (.node (ob78 P) .nil .nil) .nil)) (.node (ob19 P) (.node (ob35 P) (.node (ob68 P) .nil .nil) (.node (ob102 P) .nil .nil)) (.node (ob51 P) (.node (ob86 P) .nil .nil) .nil)))) (.node (boot_o_6 P) (.node (boot_o_10 P) (.node (ob9 P) (.node (ob25 P) (.node (ob57 P) .nil .nil) (.node (ob92 P) .nil .nil)) (.node (ob41 P) (.node (ob76 P) .nil .nil) (.node (ob108 P) .nil .nil))) (.node (ob17 P) (.node (ob33 P) (.node (ob66 P) .nil .nil) (.node (ob100 P) .nil .nil)) (.node (ob49 P) (.node (ob84 P) .nil .nil) .nil))) (.node (ob3 P) (.node (ob13 P) (.node (ob29 P) (.node (ob61 P) .nil .nil) (.node (ob96 P) .nil .nil)) (.node (ob45 P) (.node (ob80 P) .nil .nil) .nil)) (.node (ob21 P) (.node (ob37 P) (.node (ob70 P) .nil .nil) (.node (ob104 P) .nil .nil)) (.node (ob53 P) (.node (ob88 P) .nil .nil) .nil))))))
noncomputable def sP17 (w : World) (os : OsState) : SharedT := ⟨sP17T w.params, 115, hlife, Array.mk [], ⟨0, 0, 0, 0⟩, 360, os⟩
noncomputable def sts12 : List Stmt := [stK 12, stK 13, stK 14, stK 15, stK 16]
noncomputable def ob109 (P : Params) : Obj := ⟨(.type "dict"), none, .dict #[⟨PyData.keyHash P (.ofString "__name__"), (.str (.ofString "__name__") 165), (.str (.ofString "cpy313.stringprep") 255)⟩, ⟨PyData.keyHash P (.ofString "__doc__"), (.str (.ofString "__doc__") 166), .none⟩, ⟨PyData.keyHash P (.ofString "__package__"), (.str (.ofString "__package__") 167), .none⟩, ⟨PyData.keyHash P (.ofString "__loader__"), (.str (.ofString "__loader__") 168), (.builtin "__main__.__loader__#opaque")⟩, ⟨PyData.keyHash P (.ofString "__spec__"), (.str (.ofString "__spec__") 169), .none⟩, ⟨PyData.keyHash P (.ofString "__annotations__"), (.str (.ofString "__annotations__") 170), (.ref 6)⟩, ⟨PyData.keyHash P (.ofString "__builtins__"), (.str (.ofString "__builtins__") 171), (.ref 4)⟩, ⟨PyData.keyHash P (.ofString "__file__"), (.str (.ofString "__file__") 173), (.str (.ofString "/claim/cut.py") 172)⟩, ⟨PyData.keyHash P (.ofString "__cached__"), (.str (.ofString "__cached__") 174), .none⟩, ⟨PyData.keyHash P (.ofString "not_"), (.str (.ofString "not_") 195), (.ref 21)⟩, ⟨PyData.keyHash P (.ofString "is_not"), (.str (.ofString "is_not") 203), (.ref 28)⟩, ⟨PyData.keyHash P (.ofString "and_"), (.str (.ofString "and_") 211), (.ref 35)⟩, ⟨PyData.keyHash P (.ofString "inv"), (.str (.ofString "inv") 218), (.ref 42)⟩, ⟨PyData.keyHash P (.ofString "contains"), (.str (.ofString "contains") 226), (.ref 49)⟩, ⟨PyData.keyHash P (.ofString "iadd"), (.str (.ofString "iadd") 234), (.ref 56)⟩, ⟨PyData.keyHash P (.ofString "ilshift"), (.str (.ofString "ilshift") 242), (.ref 63)⟩, ⟨PyData.keyHash P (.ofString "Int2AP"), (.str (.ofString "Int2AP") 254), (.ref 70)⟩, ⟨PyData.keyHash P (.ofString "b1_set"), (.str (.ofString "b1_set") 316), (.ref 78)⟩, ⟨PyData.keyHash P (.ofString "in_table_b1"), (.str (.ofString "in_table_b1") 323), (.ref 88)⟩, ⟨PyData.keyHash P (.ofString "in_table_c11"), (.str (.ofString "in_table_c11") 330), (.ref 95)⟩, ⟨PyData.keyHash P (.ofString "in_table_c4"), (.str (.ofString "in_table_c4") 338), (.ref 102)⟩, ⟨PyData.keyHash P (.ofString "c6_set"), (.str (.ofString "c6_set") 352), (.ref 104)⟩, ⟨PyData.keyHash P (.ofString "in_table_c6"), (.str (.ofString "in_table_c6") 359), (.ref 114)⟩, ⟨PyData.keyHash P (.ofString "c7_set"), (.str (.ofString "c7_set") 387), (.ref 116)⟩, ⟨PyData.keyHash P (.ofString "in_table_c7"), (.str (.ofString "in_table_c7") 394), (.ref 126)⟩] 25, #[]⟩
noncomputable def ob110 (_ : Params) : Obj := ⟨.none, none, .fields #[(.int 2 0), (.int 0 0), (.ref 20), (.int 4 0), (.int 0 0), (.ref 27), (.int 6 0), (.int 0 0), (.ref 34), (.int 8 0), (.int 0 0), (.ref 41), (.int 10 0), (.int 0 0), (.ref 48), (.int 12 0), (.int 0 0), (.ref 55), (.int 15 0), (.int 0 0), (.ref 62), (.int 19 0), (.int 0 0), (.ref 69), (.int 29 0), (.int 0 0), (.ref 87), (.int 31 0), (.int 0 0), (.ref 94), (.int 33 0), (.int 0 0), (.ref 101), (.int 41 0), (.int 0 0), (.ref 113), (.int 44 0), (.int 0 0), (.ref 125)], #[]⟩
noncomputable def ob111 (_ : Params) : Obj := ⟨(.type "range"), none, .fields #[(.int 12272 360), (.int 12284 361), (.int 1 362)], #[]⟩
noncomputable def ob112 (P : Params) : Obj := ⟨(.type "set"), none, .set #[(12272, (.int 12272 363)), (12273, (.int 12273 365)), (12274, (.int 12274 367)), (12275, (.int 12275 369)), (12276, (.int 12276 371)), (12277, (.int 12277 373)), (12278, (.int 12278 375)), (12279, (.int 12279 377)), (12280, (.int 12280 379)), (12281, (.int 12281 381)), (12282, (.int 12282 383)), (12283, (.int 12283 385))] 13 { mask := 31, place := #[16, 17, 18, 19, 20, 21, 22, 23, 24, 25, 26, 27], dummies := #[], finger := 0, led := !(P.followText "set-order"), moves := 1, plain := true }, #[]⟩
noncomputable def ob113 (_ : Params) : Obj := ⟨(.type "range_iterator"), none, .fields #[(.int 12284 0), (.int 0 0), (.int 1 0)], #[]⟩
noncomputable def ob114 (_ : Params) : Obj := ⟨(.type "tuple"), none, .seq #[] 0, #[]⟩
noncomputable def ob115 (_ : Params) : Obj := ⟨(.type "StopIteration"), none, .fields #[(.ref 118), .none, .none, .none, (.bool false), .none], #[]⟩
noncomputable def ob116 (_ : Params) : Obj := ⟨(.type "tuple"), none, .seq #[] 0, #[]⟩
noncomputable def ob117 (_ : Params) : Obj := ⟨.none, none, .fields #[], #[]⟩
noncomputable def ob118 (_ : Params) : Obj := ⟨(.type "tuple"), none, .seq #[(.str (.ofString "code") 391)] 0, #[]⟩
noncomputable def ob119 (_ : Params) : Obj := ⟨(.type "tuple"), none, .seq #[] 0, #[]⟩
noncomputable def ob120 (_ : Params) : Obj := ⟨.none, none, .func { name := (.ofString "in_table_c7"), qualname := (.ofString "in_table_c7"), params := fnP 18, body := .stmts (fnB 18), scope := fnS 18, globals := 0, closure := [], defaults := .none, kwdefaults := .none, doc := .none, pyModule := .none, annotations := none, code := .none, closureTuple := .none, builtins := 0 }, #[]⟩
noncomputable def ob121 (_ : Params) : Obj := ⟨(.type "code"), none, .fields #[(.str (.ofString "in_table_c7") 388), (.str (.ofString "in_table_c7") 389), (.str (.ofString "/claim/cut.py") 390), (.int 44 0), (.int 1 0), (.int 0 0), (.int 0 0), (.int 3 0), (.ref 120), (.bool true), (.int 181 0), (.ref 121), .none, (.ref 122), (.ref 123), (.ref 124), (.int 392 0), (.int 44 0), (.str (.ofString "/claim/cut.py") 393)], #[]⟩
noncomputable def ob122 (_ : Params) : Obj := ⟨(.type "function"), none, .func { name := (.ofString "in_table_c7"), qualname := (.ofString "in_table_c7"), params := fnP 18, body := .stmts (fnB 18), scope := fnS 18, globals := 3, closure := [], defaults := .none, kwdefaults := .none, doc := .none, pyModule := (.str (.ofString "cpy313.stringprep") 255), annotations := none, code := (.ref 125), closureTuple := .none, builtins := 0 }, #[]⟩
noncomputable def sP19T (P : Params) : BT := (.node (boot_o_0 P) (.node (boot_o_1 P) (.node (ob109 P) (.node (boot_o_7 P) (.node (ob6 P) (.node (ob22 P) (.node (ob54 P) .nil .nil) (.node (ob89 P) .nil .nil)) (.node (ob38 P) (.node (ob71 P) .nil .nil) (.node (ob105 P) .nil .nil))) (.node (ob14 P) (.node (ob30 P) (.node (ob63 P) .nil .nil) (.node (ob97 P) .nil .nil)) (.node (ob46 P) (.node (ob81 P) .nil .nil) (.node (ob115 P) .nil .nil)))) (.node (ob0 P) (.node (ob10 P) (.node (ob26 P) (.node (ob58 P) .nil .nil) (.node (ob93 P) .nil .nil)) (.node (ob42 P) (.node (ob77 P) .nil .nil) (.node (ob111 P) .nil .nil))) (.node (ob18 P) (.node (ob34 P) (.node (ob67 P) .nil .nil) (.node (ob101 P) .nil .nil)) (.node (ob50 P) (.node (ob85 P) .nil .nil) (.node (ob119 P) .nil .nil))))) (.node (boot_o_5 P) (.node (boot_o_9 P) (.node (ob8 P) (.node (ob24 P) (.node (ob56 P) .nil .nil) (.node (ob91 P) .nil .nil)) (.node (ob40 P) (.node (ob73 P) .nil .nil) (.node (ob107 P) .nil .nil))) (.node (ob16 P) (.node (ob32 P) (.node (ob65 P) .nil .nil) (.node (ob99 P) .nil .nil)) (.node (ob48 P) (.node (ob83 P) .nil .nil) (.node (ob117 P) .nil .nil)))) (.node (ob2 P) (.node (ob12 P) (.node (ob28 P) (.node (ob60 P) .nil .nil) (.node (ob95 P) .nil .nil)) (.node (ob44 P) (.node (ob79 P) .nil .nil) (.node (ob113 P) .nil .nil))) (.node (ob20 P) (.node (ob36 P) (.node (ob69 P) .nil .nil) (.node (ob103 P) .nil .nil)) (.node (ob52 P) (.node (ob87 P) .nil .nil) (.node (ob121 P) .nil .nil)))))) (.node (boot_o_2 P) (.node (boot_o_4 P) (.node (boot_o_8 P) (.node (ob7 P) (.node (ob23 P) (.node (ob55 P) .nil .nil) (.node (ob90 P) .nil .nil)) (.node (ob39 P) (.node (ob72 P) .nil .nil) (.node (ob106 P) .nil .nil))) (.node (ob15 P) (.node (ob31 P) (.node (ob64 P) .nil .nil) (.node (ob98 P) .nil .nil)) (.node (ob47 P) (.node (ob82 P) .nil .nil) (.node (ob116 P) .nil .nil)))) (.node (ob110 P) (.node (ob11 P) (.node (ob27 P) (.node (ob59 P) .nil .nil) (.node (ob94 P) .nil .nil)) (.node (ob43 P) (.node (ob78 P) .nil .nil) (.node (ob112 P) .nil .nil))) (.node (ob19 P) (.node (ob35 P) (.node (ob68 P) .nil .nil) (.node (ob102 P) .nil .nil)) (.node (ob51 P) (.node (ob86 P) .nil .nil) (.node (ob120 P) .nil .nil))))) (.node (boot_o_6 P) (.node (boot_o_10 P) (.node (ob9 P) (.node (ob25 P) (.node (ob57 P) .nil .nil) (.node (ob92 P) .nil .nil)) (.node (ob41 P) (.node (ob76 P) .nil .nil) (.node (ob108 P) .nil .nil))) (.node (ob17 P) (.node (ob33 P) (.node (ob66 P) .nil .nil) (.node (ob100 P) .nil .nil)) (.node (ob49 P) (.node (ob84 P) .nil .nil) (.node (ob118 P) .nil .nil)))) (.node (ob3 P) (.node (ob13 P) (.node (ob29 P) (.node (ob61 P) .nil .nil) (.node (ob96 P) .nil .nil)) (.node (ob45 P) (.node (ob80 P) .nil .nil) (.node (ob114 P) .nil .nil))) (.node (ob21 P) (.node (ob37 P) (.node (ob70 P) .nil .nil) (.node (ob104 P) .nil .nil)) (.node (ob53 P) (.node (ob88 P) .nil .nil) (.node (ob122 P) .nil .nil)))))))
noncomputable def sP19 (w : World) (os : OsState) : SharedT := ⟨sP19T w.params, 127, hlife, Array.mk [], ⟨0, 0, 0, 0⟩, 395, os⟩
noncomputable def sts17 : List Stmt := [stK 17, stK 18]
noncomputable def ob123 (P : Params) : Obj := ⟨(.type "dict"), none, .dict #[⟨PyData.keyHash P (.ofString "__name__"), (.str (.ofString "__name__") 165), (.str (.ofString "cpy313.stringprep") 255)⟩, ⟨PyData.keyHash P (.ofString "__doc__"), (.str (.ofString "__doc__") 166), .none⟩, ⟨PyData.keyHash P (.ofString "__package__"), (.str (.ofString "__package__") 167), .none⟩, ⟨PyData.keyHash P (.ofString "__loader__"), (.str (.ofString "__loader__") 168), (.builtin "__main__.__loader__#opaque")⟩, ⟨PyData.keyHash P (.ofString "__spec__"), (.str (.ofString "__spec__") 169), .none⟩, ⟨PyData.keyHash P (.ofString "__annotations__"), (.str (.ofString "__annotations__") 170), (.ref 6)⟩, ⟨PyData.keyHash P (.ofString "__builtins__"), (.str (.ofString "__builtins__") 171), (.ref 4)⟩, ⟨PyData.keyHash P (.ofString "__file__"), (.str (.ofString "__file__") 173), (.str (.ofString "/claim/cut.py") 172)⟩, ⟨PyData.keyHash P (.ofString "__cached__"), (.str (.ofString "__cached__") 174), .none⟩, ⟨PyData.keyHash P (.ofString "not_"), (.str (.ofString "not_") 195), (.ref 21)⟩, ⟨PyData.keyHash P (.ofString "is_not"), (.str (.ofString "is_not") 203), (.ref 28)⟩, ⟨PyData.keyHash P (.ofString "and_"), (.str (.ofString "and_") 211), (.ref 35)⟩, ⟨PyData.keyHash P (.ofString "inv"), (.str (.ofString "inv") 218), (.ref 42)⟩, ⟨PyData.keyHash P (.ofString "contains"), (.str (.ofString "contains") 226), (.ref 49)⟩, ⟨PyData.keyHash P (.ofString "iadd"), (.str (.ofString "iadd") 234), (.ref 56)⟩, ⟨PyData.keyHash P (.ofString "ilshift"), (.str (.ofString "ilshift") 242), (.ref 63)⟩, ⟨PyData.keyHash P (.ofString "Int2AP"), (.str (.ofString "Int2AP") 254), (.ref 70)⟩, ⟨PyData.keyHash P (.ofString "b1_set"), (.str (.ofString "b1_set") 316), (.ref 78)⟩, ⟨PyData.keyHash P (.ofString "in_table_b1"), (.str (.ofString "in_table_b1") 323), (.ref 88)⟩, ⟨PyData.keyHash P (.ofString "in_table_c11"), (.str (.ofString "in_table_c11") 330), (.ref 95)⟩, ⟨PyData.keyHash P (.ofString "in_table_c4"), (.str (.ofString "in_table_c4") 338), (.ref 102)⟩, ⟨PyData.keyHash P (.ofString "c6_set"), (.str (.ofString "c6_set") 352), (.ref 104)⟩, ⟨PyData.keyHash P (.ofString "in_table_c6"), (.str (.ofString "in_table_c6") 359), (.ref 114)⟩, ⟨PyData.keyHash P (.ofString "c7_set"), (.str (.ofString "c7_set") 387), (.ref 116)⟩, ⟨PyData.keyHash P (.ofString "in_table_c7"), (.str (.ofString "in_table_c7") 394), (.ref 126)⟩, ⟨PyData.keyHash P (.ofString "c8_set"), (.str (.ofString "c8_set") 435), (.ref 140)⟩] 26, #[]⟩
noncomputable def ob124 (_ : Params) : Obj := ⟨(.type "list"), none, .seq #[(.int 832 395), (.int 833 396), (.int 8206 397), (.int 8207 398)] 0, #[]⟩
noncomputable def ob125 (_ : Params) : Obj := ⟨(.type "range"), none, .fields #[(.int 8234 399), (.int 8239 400), (.int 1 401)], #[]⟩
noncomputable def ob126 (_ : Params) : Obj := ⟨(.type "list"), none, .seq #[(.int 8234 404), (.int 8235 405), (.int 8236 406), (.int 8237 407), (.int 8238 408)] 7, #[]⟩
noncomputable def ob127 (_ : Params) : Obj := ⟨(.type "range_iterator"), none, .fields #[(.int 8239 0), (.int 0 0), (.int 1 0)], #[]⟩
noncomputable def ob128 (_ : Params) : Obj := ⟨(.type "tuple"), none, .seq #[] 0, #[]⟩
noncomputable def ob129 (_ : Params) : Obj := ⟨(.type "StopIteration"), none, .fields #[(.ref 131), .none, .none, .none, (.bool false), .none], #[]⟩
noncomputable def ob130 (_ : Params) : Obj := ⟨(.type "list"), none, .seq #[(.int 832 395), (.int 833 396), (.int 8206 397), (.int 8207 398), (.int 8234 404), (.int 8235 405), (.int 8236 406), (.int 8237 407), (.int 8238 408)] 0, #[]⟩
noncomputable def ob131 (_ : Params) : Obj := ⟨(.type "range"), none, .fields #[(.int 8298 409), (.int 8304 410), (.int 1 411)], #[]⟩
noncomputable def ob132 (_ : Params) : Obj := ⟨(.type "list"), none, .seq #[(.int 8298 414), (.int 8299 415), (.int 8300 416), (.int 8301 417), (.int 8302 418), (.int 8303 419)] 8, #[]⟩
noncomputable def ob133 (_ : Params) : Obj := ⟨(.type "range_iterator"), none, .fields #[(.int 8304 0), (.int 0 0), (.int 1 0)], #[]⟩
noncomputable def ob134 (_ : Params) : Obj := ⟨(.type "tuple"), none, .seq #[] 0, #[]⟩
noncomputable def ob135 (_ : Params) : Obj := ⟨(.type "StopIteration"), none, .fields #[(.ref 137), .none, .none, .none, (.bool false), .none], #[]⟩
noncomputable def ob136 (_ : Params) : Obj := ⟨(.type "list"), none, .seq #[(.int 832 395), (.int 833 396), (.int 8206 397), (.int 8207 398), (.int 8234 404), (.int 8235 405), (.int 8236 406), (.int 8237 407), (.int 8238 408), (.int 8298 414), (.int 8299 415), (.int 8300 416), (.int 8301 417), (.int 8302 418), (.int 8303 419)] 0, #[]⟩
noncomputable def ob137 (P : Params) : Obj := ⟨(.type "set"), none, .set #[(832, (.int 832 395)), (833, (.int 833 396)), (8234, (.int 8234 404)), (8235, (.int 8235 405)), (8236, (.int 8236 406)), (8237, (.int 8237 407)), (8206, (.int 8206 397)), (8207, (.int 8207 398)), (8238, (.int 8238 408)), (8298, (.int 8298 414)), (8299, (.int 8299 415)), (8300, (.int 8300 416)), (8301, (.int 8301 417)), (8302, (.int 8302 418)), (8303, (.int 8303 419))] 16 { mask := 31, place := #[0, 1, 10, 11, 12, 13, 14, 15, 16, 17, 18, 19, 20, 21, 22], dummies := #[], finger := 0, led := !(P.followText "set-order"), moves := 1, plain := true }, #[]⟩
noncomputable def ob138 (_ : Params) : Obj := ⟨(.type "list_iterator"), none, .fields #[.none, (.int 15 0)], #[]⟩
noncomputable def ob139 (_ : Params) : Obj := ⟨(.type "tuple"), none, .seq #[] 0, #[]⟩
noncomputable def ob140 (_ : Params) : Obj := ⟨(.type "StopIteration"), none, .fields #[(.ref 142), .none, .none, .none, (.bool false), .none], #[]⟩
noncomputable def sP20T (P : Params) : BT := (.node (boot_o_0 P) (.node (boot_o_1 P) (.node (ob123 P) (.node (boot_o_7 P) (.node (ob6 P) (.node (ob22 P) (.node (ob54 P) (.node (ob124 P) .nil .nil) .nil) (.node (ob89 P) .nil .nil)) (.node (ob38 P) (.node (ob71 P) (.node (ob140 P) .nil .nil) .nil) (.node (ob105 P) .nil .nil))) (.node (ob14 P) (.node (ob30 P) (.node (ob63 P) (.node (ob132 P) .nil .nil) .nil) (.node (ob97 P) .nil .nil)) (.node (ob46 P) (.node (ob81 P) .nil .nil) (.node (ob115 P) .nil .nil)))) (.node (ob0 P) (.node (ob10 P) (.node (ob26 P) (.node (ob58 P) (.node (ob128 P) .nil .nil) .nil) (.node (ob93 P) .nil .nil)) (.node (ob42 P) (.node (ob77 P) .nil .nil) (.node (ob111 P) .nil .nil))) (.node (ob18 P) (.node (ob34 P) (.node (ob67 P) (.node (ob136 P) .nil .nil) .nil) (.node (ob101 P) .nil .nil)) (.node (ob50 P) (.node (ob85 P) .nil .nil) (.node (ob119 P) .nil .nil))))) (.node (boot_o_5 P) (.node (boot_o_9 P) (.node (ob8 P) (.node (ob24 P) (.node (ob56 P) (.node (ob126 P) .nil .nil) .nil) (.node (ob91 P) .nil .nil)) (.node (ob40 P) (.node (ob73 P) .nil .nil) (.node (ob107 P) .nil .nil))) (.node (ob16 P) (.node (ob32 P) (.node (ob65 P) (.node (ob134 P) .nil .nil) .nil) (.node (ob99 P) .nil .nil)) (.node (ob48 P) (.node (ob83 P) .nil .nil) (.node (ob117 P) .nil .nil)))) (.node (ob2 P) (.node (ob12 P) (.node (ob28 P) (.node (ob60 P) (.node (ob130 P) .nil .nil) .nil) (.node (ob95 P) .nil .nil)) (.node (ob44 P) (.node (ob79 P) .nil .nil) (.node (ob113 P) .nil .nil))) (.node (ob20 P) (.node (ob36 P) (.node (ob69 P) (.node (ob138 P) .nil .nil) .nil) (.node (ob103 P) .nil .nil)) (.node (ob52 P) (.node (ob87 P) .nil .nil) (.node (ob121 P) .nil .nil)))))) (.node (boot_o_2 P) (.node (boot_o_4 P) (.node (boot_o_8 P) (.node (ob7 P) (.node (ob23 P) (.node (ob55 P) (.node (ob125 P) .nil .nil) .nil) (.node (ob90 P) .nil .nil)) (.node (ob39 P) (.node (ob72 P) .nil .nil) (.node (ob106 P) .nil .nil))) (.node (ob15 P) (.node (ob31 P) (.node (ob64 P) (.node (ob133 P) .nil .nil) .nil) (.node (ob98 P) .nil .nil)) (.node (ob47 P) (.node (ob82 P) .nil .nil) (.node (ob116 P) .nil .nil)))) (.node (ob110 P) (.node (ob11 P) (.node (ob27 P) (.node (ob59 P) (.node (ob129 P) .nil .nil) .nil) (.node (ob94 P) .nil .nil)) (.node (ob43 P) (.node (ob78 P) .nil .nil) (.node (ob112 P) .nil .nil))) (.node (ob19 P) (.node (ob35 P) (.node (ob68 P) (.node (ob137 P) .nil .nil) .nil) (.node (ob102 P) .nil .nil)) (.node (ob51 P) (.node (ob86 P) .nil .nil) (.node (ob120 P) .nil .nil))))) (.node (boot_o_6 P) (.node (boot_o_10 P) (.node (ob9 P) (.node (ob25 P) (.node (ob57 P) (.node (ob127 P) .nil .nil) .nil) (.node (ob92 P) .nil .nil)) (.node (ob41 P) (.node (ob76 P) .nil .nil) (.node (ob108 P) .nil .nil))) (.node (ob17 P) (.node (ob33 P) (.node (ob66 P) (.node (ob135 P) .nil .nil) .nil) (.node (ob100 P) .nil .nil)) (.node (ob49 P) (.node (ob84 P) .nil .nil) (.node (ob118 P) .nil .nil)))) (.node (ob3 P) (.node (ob13 P) (.node (ob29 P) (.node (ob61 P) (.node (ob131 P) .nil .nil) .nil) (.node (ob96 P) .nil .nil)) (.node (ob45 P) (.node (ob80 P) .nil .nil) (.node (ob114 P) .nil .nil))) (.node (ob21 P) (.node (ob37 P) (.node (ob70 P) (.node (ob139 P) .nil .nil) .nil) (.node (ob104 P) .nil .nil)) (.node (ob53 P) (.node (ob88 P) .nil .nil) (.node (ob122 P) .nil .nil)))))))
noncomputable def sP20 (w : World) (os : OsState) : SharedT := ⟨sP20T w.params, 144, hlife, Array.mk [], ⟨0, 0, 0, 0⟩, 436, os⟩
noncomputable def sts19 : List Stmt := [stK 19]
noncomputable def ob141 (P : Params) : Obj := ⟨(.type "dict"), none, .dict #[⟨PyData.keyHash P (.ofString "__name__"), (.str (.ofString "__name__") 165), (.str (.ofString "cpy313.stringprep") 255)⟩, ⟨PyData.keyHash P (.ofString "__doc__"), (.str (.ofString "__doc__") 166), .none⟩, ⟨PyData.keyHash P (.ofString "__package__"), (.str (.ofString "__package__") 167), .none⟩, ⟨PyData.keyHash P (.ofString "__loader__"), (.str (.ofString "__loader__") 168), (.builtin "__main__.__loader__#opaque")⟩, ⟨PyData.keyHash P (.ofString "__spec__"), (.str (.ofString "__spec__") 169), .none⟩, ⟨PyData.keyHash P (.ofString "__annotations__"), (.str (.ofString "__annotations__") 170), (.ref 6)⟩, ⟨PyData.keyHash P (.ofString "__builtins__"), (.str (.ofString "__builtins__") 171), (.ref 4)⟩, ⟨PyData.keyHash P (.ofString "__file__"), (.str (.ofString "__file__") 173), (.str (.ofString "/claim/cut.py") 172)⟩, ⟨PyData.keyHash P (.ofString "__cached__"), (.str (.ofString "__cached__") 174), .none⟩, ⟨PyData.keyHash P (.ofString "not_"), (.str (.ofString "not_") 195), (.ref 21)⟩, ⟨PyData.keyHash P (.ofString "is_not"), (.str (.ofString "is_not") 203), (.ref 28)⟩, ⟨PyData.keyHash P (.ofString "and_"), (.str (.ofString "and_") 211), (.ref 35)⟩, ⟨PyData.keyHash P (.ofString "inv"), (.str (.ofString "inv") 218), (.ref 42)⟩, ⟨PyData.keyHash P (.ofString "contains"), (.str (.ofString "contains") 226), (.ref 49)⟩, ⟨PyData.keyHash P (.ofString "iadd"), (.str (.ofString "iadd") 234), (.ref 56)⟩, ⟨PyData.keyHash P (.ofString "ilshift"), (.str (.ofString "ilshift") 242), (.ref 63)⟩, ⟨PyData.keyHash P (.ofString "Int2AP"), (.str (.ofString "Int2AP") 254), (.ref 70)⟩, ⟨PyData.keyHash P (.ofString "b1_set"), (.str (.ofString "b1_set") 316), (.ref 78)⟩, ⟨PyData.keyHash P (.ofString "in_table_b1"), (.str (.ofString "in_table_b1") 323), (.ref 88)⟩, ⟨PyData.keyHash P (.ofString "in_table_c11"), (.str (.ofString "in_table_c11") 330), (.ref 95)⟩, ⟨PyData.keyHash P (.ofString "in_table_c4"), (.str (.ofString "in_table_c4") 338), (.ref 102)⟩, ⟨PyData.keyHash P (.ofString "c6_set"), (.str (.ofString "c6_set") 352), (.ref 104)⟩, ⟨PyData.keyHash P (.ofString "in_table_c6"), (.str (.ofString "in_table_c6") 359), (.ref 114)⟩, ⟨PyData.keyHash P (.ofString "c7_set"), (.str (.ofString "c7_set") 387), (.ref 116)⟩, ⟨PyData.keyHash P (.ofString "in_table_c7"), (.str (.ofString "in_table_c7") 394), (.ref 126)⟩, ⟨PyData.keyHash P (.ofString "c8_set"), (.str (.ofString "c8_set") 435), (.ref 140)⟩, ⟨PyData.keyHash P (.ofString "in_table_c8"), (.str (.ofString "in_table_c8") 442), (.ref 150)⟩] 27, #[]⟩
noncomputable def ob142 (_ : Params) : Obj := ⟨.none, none, .fields #[(.int 2 0), (.int 0 0), (.ref 20), (.int 4 0), (.int 0 0), (.ref 27), (.int 6 0), (.int 0 0), (.ref 34), (.int 8 0), (.int 0 0), (.ref 41), (.int 10 0), (.int 0 0), (.ref 48), (.int 12 0), (.int 0 0), (.ref 55), (.int 15 0), (.int 0 0), (.ref 62), (.int 19 0), (.int 0 0), (.ref 69), (.int 29 0), (.int 0 0), (.ref 87), (.int 31 0), (.int 0 0), (.ref 94), (.int 33 0), (.int 0 0), (.ref 101), (.int 41 0), (.int 0 0), (.ref 113), (.int 44 0), (.int 0 0), (.ref 125), (.int 47 0), (.int 0 0), (.ref 149)], #[]⟩
noncomputable def ob143 (_ : Params) : Obj := ⟨(.type "tuple"), none, .seq #[] 0, #[]⟩
noncomputable def ob144 (_ : Params) : Obj := ⟨.none, none, .fields #[], #[]⟩
noncomputable def ob145 (_ : Params) : Obj := ⟨(.type "tuple"), none, .seq #[(.str (.ofString "code") 439)] 0, #[]⟩
noncomputable def ob146 (_ : Params) : Obj := ⟨(.type "tuple"), none, .seq #[] 0, #[]⟩
noncomputable def ob147 (_ : Params) : Obj := ⟨.none, none, .func { name := (.ofString "in_table_c8"), qualname := (.ofString "in_table_c8"), params := fnP 20, body := .stmts (fnB 20), scope := fnS 20, globals := 0, closure := [], defaults := .none, kwdefaults := .none, doc := .none, pyModule := .none, annotations := none, code := .none, closureTuple := .none, builtins := 0 }, #[]⟩
noncomputable def ob148 (_ : Params) : Obj := ⟨(.type "code"), none, .fields #[(.str (.ofString "in_table_c8") 436), (.str (.ofString "in_table_c8") 437), (.str (.ofString "/claim/cut.py") 438), (.int 47 0), (.int 1 0), (.int 0 0), (.int 0 0), (.int 3 0), (.ref 144), (.bool true), (.int 181 0), (.ref 145), .none, (.ref 146), (.ref 147), (.ref 148), (.int 440 0), (.int 47 0), (.str (.ofString "/claim/cut.py") 441)], #[]⟩
noncomputable def ob149 (_ : Params) : Obj := ⟨(.type "function"), none, .func { name := (.ofString "in_table_c8"), qualname := (.ofString "in_table_c8"), params := fnP 20, body := .stmts (fnB 20), scope := fnS 20, globals := 3, closure := [], defaults := .none, kwdefaults := .none, doc := .none, pyModule := (.str (.ofString "cpy313.stringprep") 255), annotations := none, code := (.ref 149), closureTuple := .none, builtins := 0 }, #[]⟩
noncomputable def sP21T (P : Params) : BT := (.node (boot_o_0 P) (.node (boot_o_1 P) (.node (ob141 P) (.node (boot_o_7 P) (.node (ob6 P) (.node (ob22 P) (.node (ob54 P) (.node (ob124 P) .nil .nil) .nil) (.node (ob89 P) .nil .nil)) (.node (ob38 P) (.node (ob71 P) (.node (ob140 P) .nil .nil) .nil) (.node (ob105 P) .nil .nil))) (.node (ob14 P) (.node (ob30 P) (.node (ob63 P) (.node (ob132 P) .nil .nil) .nil) (.node (ob97 P) .nil .nil)) (.node (ob46 P) (.node (ob81 P) .nil .nil) (.node (ob115 P) .nil .nil)))) (.node (ob0 P) (.node (ob10 P) (.node (ob26 P) (.node (ob58 P) (.node (ob128 P) .nil .nil) .nil) (.node (ob93 P) .nil .nil)) (.node (ob42 P) (.node (ob77 P) (.node (ob146 P) .nil .nil) .nil) (.node (ob111 P) .nil .nil))) (.node (ob18 P) (.node (ob34 P) (.node (ob67 P) (.node (ob136 P) .nil .nil) .nil) (.node (ob101 P) .nil .nil)) (.node (ob50 P) (.node (ob85 P) .nil .nil) (.node (ob119 P) .nil .nil))))) (.node (boot_o_5 P) (.node (boot_o_9 P) (.node (ob8 P) (.node (ob24 P) (.node (ob56 P) (.node (ob126 P) .nil .nil) .nil) (.node (ob91 P) .nil .nil)) (.node (ob40 P) (.node (ob73 P) (.node (ob144 P) .nil .nil) .nil) (.node (ob107 P) .nil .nil))) (.node (ob16 P) (.node (ob32 P) (.node (ob65 P) (.node (ob134 P) .nil .nil) .nil) (.node (ob99 P) .nil .nil)) (.node (ob48 P) (.node (ob83 P) .nil .nil) (.node (ob117 P) .nil .nil)))) (.node (ob2 P) (.node (ob12 P) (.node (ob28 P) (.node (ob60 P) (.node (ob130 P) .nil .nil) .nil) (.node (ob95 P) .nil .nil)) (.node (ob44 P) (.node (ob79 P) (.node (ob148 P) .nil .nil) .nil) (.node (ob113 P) .nil .nil))) (.node (ob20 P) (.node (ob36 P) (.node (ob69 P) (.node (ob138 P) .nil .nil) .nil) (.node (ob103 P) .nil .nil)) (.node (ob52 P) (.node (ob87 P) .nil .nil) (.node (ob121 P) .nil .nil)))))) (.node (boot_o_2 P) (.node (boot_o_4 P) (.node (boot_o_8 P) (.node (ob7 P) (.node (ob23 P) (.node (ob55 P) (.node (ob125 P) .nil .nil) .nil) (.node (ob90 P) .nil .nil)) (.node (ob39 P) (.node (ob72 P) (.node (ob143 P) .nil .nil) .nil) (.node (ob106 P) .nil .nil))) (.node (ob15 P) (.node (ob31 P) (.node (ob64 P) (.node (ob133 P) .nil .nil) .nil) (.node (ob98 P) .nil .nil)) (.node (ob47 P) (.node (ob82 P) .nil .nil) (.node (ob116 P) .nil .nil)))) (.node (ob142 P) (.node (ob11 P) (.node (ob27 P) (.node (ob59 P) (.node (ob129 P) .nil .nil) .nil) (.node (ob94 P) .nil .nil)) (.node (ob43 P) (.node (ob78 P) (.node (ob147 P) .nil .nil) .nil) (.node (ob112 P) .nil .nil))) (.node (ob19 P) (.node (ob35 P) (.node (ob68 P) (.node (ob137 P) .nil .nil) .nil) (.node (ob102 P) .nil .nil)) (.node (ob51 P) (.node (ob86 P) .nil .nil) (.node (ob120 P) .nil .nil))))) (.node (boot_o_6 P) (.node (boot_o_10 P) (.node (ob9 P) (.node (ob25 P) (.node (ob57 P) (.node (ob127 P) .nil .nil) .nil) (.node (ob92 P) .nil .nil)) (.node (ob41 P) (.node (ob76 P) (.node (ob145 P) .nil .nil) .nil) (.node (ob108 P) .nil .nil))) (.node (ob17 P) (.node (ob33 P) (.node (ob66 P) (.node (ob135 P) .nil .nil) .nil) (.node (ob100 P) .nil .nil)) (.node (ob49 P) (.node (ob84 P) .nil .nil) (.node (ob118 P) .nil .nil)))) (.node (ob3 P) (.node (ob13 P) (.node (ob29 P) (.node (ob61 P) (.node (ob131 P) .nil .nil) .nil) (.node (ob96 P) .nil .nil)) (.node (ob45 P) (.node (ob80 P) (.node (ob149 P) .nil .nil) .nil) (.node (ob114 P) .nil .nil))) (.node (ob21 P) (.node (ob37 P) (.node (ob70 P) (.node (ob139 P) .nil .nil) .nil) (.node (ob104 P) .nil .nil)) (.node (ob53 P) (.node (ob88 P) .nil .nil) (.node (ob122 P) .nil .nil)))))))
noncomputable def sP21 (w : World) (os : OsState) : SharedT := ⟨sP21T w.params, 151, hlife, Array.mk [], ⟨0, 0, 0, 0⟩, 443, os⟩
noncomputable def sts20 : List Stmt := [stK 20]
noncomputable def ob150 (P : Params) : Obj := ⟨(.type "dict"), none, .dict #[⟨PyData.keyHash P (.ofString "__name__"), (.str (.ofString "__name__") 165), (.str (.ofString "cpy313.stringprep") 255)⟩, ⟨PyData.keyHash P (.ofString "__doc__"), (.str (.ofString "__doc__") 166), .none⟩, ⟨PyData.keyHash P (.ofString "__package__"), (.str (.ofString "__package__") 167), .none⟩, ⟨PyData.keyHash P (.ofString "__loader__"), (.str (.ofString "__loader__") 168), (.builtin "__main__.__loader__#opaque")⟩, ⟨PyData.keyHash P (.ofString "__spec__"), (.str (.ofString "__spec__") 169), .none⟩, ⟨PyData.keyHash P (.ofString "__annotations__"), (.str (.ofString "__annotations__") 170), (.ref 6)⟩, ⟨PyData.keyHash P (.ofString "__builtins__"), (.str (.ofString "__builtins__") 171), (.ref 4)⟩, ⟨PyData.keyHash P (.ofString "__file__"), (.str (.ofString "__file__") 173), (.str (.ofString "/claim/cut.py") 172)⟩, ⟨PyData.keyHash P (.ofString "__cached__"), (.str (.ofString "__cached__") 174), .none⟩, ⟨PyData.keyHash P (.ofString "not_"), (.str (.ofString "not_") 195), (.ref 21)⟩, ⟨PyData.keyHash P (.ofString "is_not"), (.str (.ofString "is_not") 203), (.ref 28)⟩, ⟨PyData.keyHash P (.ofString "and_"), (.str (.ofString "and_") 211), (.ref 35)⟩, ⟨PyData.keyHash P (.ofString "inv"), (.str (.ofString "inv") 218), (.ref 42)⟩, ⟨PyData.keyHash P (.ofString "contains"), (.str (.ofString "contains") 226), (.ref 49)⟩, ⟨PyData.keyHash P (.ofString "iadd"), (.str (.ofString "iadd") 234), (.ref 56)⟩, ⟨PyData.keyHash P (.ofString "ilshift"), (.str (.ofString "ilshift") 242), (.ref 63)⟩, ⟨PyData.keyHash P (.ofString "Int2AP"), (.str (.ofString "Int2AP") 254), (.ref 70)⟩, ⟨PyData.keyHash P (.ofString "b1_set"), (.str (.ofString "b1_set") 316), (.ref 78)⟩, ⟨PyData.keyHash P (.ofString "in_table_b1"), (.str (.ofString "in_table_b1") 323), (.ref 88)⟩, ⟨PyData.keyHash P (.ofString "in_table_c11"), (.str (.ofString "in_table_c11") 330), (.ref 95)⟩, ⟨PyData.keyHash P (.ofString "in_table_c4"), (.str (.ofString "in_table_c4") 338), (.ref 102)⟩, ⟨PyData.keyHash P (.ofString "c6_set"), (.str (.ofString "c6_set") 352), (.ref 104)⟩, ⟨PyData.keyHash P (.ofString "in_table_c6"), (.str (.ofString "in_table_c6") 359), (.ref 114)⟩, ⟨PyData.keyHash P (.ofString "c7_set"), (.str (.ofString "c7_set") 387), (.ref 116)⟩, ⟨PyData.keyHash P (.ofString "in_table_c7"), (.str (.ofString "in_table_c7") 394), (.ref 126)⟩, ⟨PyData.keyHash P (.ofString "c8_set"), (.str (.ofString "c8_set") 435), (.ref 140)⟩, ⟨PyData.keyHash P (.ofString "in_table_c8"), (.str (.ofString "in_table_c8") 442), (.ref 150)⟩, ⟨PyData.keyHash P (.ofString "c9_set"), (.str (.ofString "c9_set") 642), (.ref 158)⟩] 28, #[]⟩
noncomputable def ob151 (_ : Params) : Obj := ⟨(.type "list"), none, .seq #[(.int 917505 443)] 0, #[]⟩
noncomputable def ob152 (_ : Params) : Obj := ⟨(.type "range"), none, .fields #[(.int 917536 444), (.int 917632 445), (.int 1 446)], #[]⟩
noncomputable def ob153 (_ : Params) : Obj := ⟨(.type "list"), none, .seq #[(.int 917536 449), (.int 917537 450), (.int 917538 451), (.int 917539 452), (.int 917540 453), (.int 917541 454), (.int 917542 455), (.int 917543 456), (.int 917544 457), (.int 917545 458), (.int 917546 459), (.int 917547 460), (.int 917548 461), (.int 917549 462), (.int 917550 463), (.int 917551 464), (.int 917552 465), (.int 917553 466), (.int 917554 467), (.int 917555 468), (.int 917556 469), (.int 917557 470), (.int 917558 471), (.int 917559 472), (.int 917560 473), (.int 917561 474), (.int 917562 475), (.int 917563 476), (.int 917564 477), (.int 917565 478), (.int 917566 479), (.int 917567 480), (.int 917568 481), (.int 917569 482), (.int 917570 483), (.int 917571 484), (.int 917572 485), (.int 917573 486), (.int 917574 487), (.int 917575 488), (.int 917576 489), (.int 917577 490), (.int 917578 491), (.int 917579 492), (.int 917580 493), (.int 917581 494), (.int 917582 495), (.int 917583 496), (.int 917584 497), (.int 917585 498), (.int 917586 499), (.int 917587 500), (.int 917588 501), (.int 917589 502), (.int 917590 503), (.int 917591 504), (.int 917592 505), (.int 917593 506), (.int 917594 507), (.int 917595 508), (.int 917596 509), (.int 917597 510), (.int 917598 511), (.int 917599 512), (.int 917600 513), (.int 917601 514), (.int 917602 515), (.int 917603 516), (.int 917604 517), (.int 917605 518), (.int 917606 519), (.int 917607 520), (.int 917608 521), (.int 917609 522), (.int 917610 523), (.int 917611 524), (.int 917612 525), (.int 917613 526), (.int 917614 527), (.int 917615 528), (.int 917616 529), (.int 917617 530), (.int 917618 531), (.int 917619 532), (.int 917620 533), (.int 917621 534), (.int 917622 535), (.int 917623 536), (.int 917624 537), (.int 917625 538), (.int 917626 539), (.int 917627 540), (.int 917628 541), (.int 917629 542), (.int 917630 543), (.int 917631 544)] 98, #[]⟩
noncomputable def ob154 (_ : Params) : Obj := ⟨(.type "range_iterator"), none, .fields #[(.int 917632 0), (.int 0 0), (.int 1 0)], #[]⟩
noncomputable def ob155 (_ : Params) : Obj := ⟨(.type "tuple"), none, .seq #[] 0, #[]⟩
noncomputable def ob156 (_ : Params) : Obj := ⟨(.type "StopIteration"), none, .fields #[(.ref 155), .none, .none, .none, (.bool false), .none], #[]⟩
noncomputable def ob157 (_ : Params) : Obj := ⟨(.type "list"), none, .seq #[(.int 917505 443), (.int 917536 449), (.int 917537 450), (.int 917538 451), (.int 917539 452), (.int 917540 453), (.int 917541 454), (.int 917542 455), (.int 917543 456), (.int 917544 457), (.int 917545 458), (.int 917546 459), (.int 917547 460), (.int 917548 461), (.int 917549 462), (.int 917550 463), (.int 917551 464), (.int 917552 465), (.int 917553 466), (.int 917554 467), (.int 917555 468), (.int 917556 469), (.int 917557 470), (.int 917558 471), (.int 917559 472), (.int 917560 473), (.int 917561 474), (.int 917562 475), (.int 917563 476), (.int 917564 477), (.int 917565 478), (.int 917566 479), (.int 917567 480), (.int 917568 481), (.int 917569 482), (.int 917570 483), (.int 917571 484), (.int 917572 485), (.int 917573 486), (.int 917574 487), (.int 917575 488), (.int 917576 489), (.int 917577 490), (.int 917578 491), (.int 917579 492), (.int 917580 493), (.int 917581 494), (.int 917582 495), (.int 917583 496), (.int 917584 497), (.int 917585 498), (.int 917586 499), (.int 917587 500), (.int 917588 501), (.int 917589 502), (.int 917590 503), (.int 917591 504), (.int 917592 505), (.int 917593 506), (.int 917594 507), (.int 917595 508), (.int 917596 509), (.int 917597 510), (.int 917598 511), (.int 917599 512), (.int 917600 513), (.int 917601 514), (.int 917602 515), (.int 917603 516), (.int 917604 517), (.int 917605 518), (.int 917606 519), (.int 917607 520), (.int 917608 521), (.int 917609 522), (.int 917610 523), (.int 917611 524), (.int 917612 525), (.int 917613 526), (.int 917614 527), (.int 917615 528), (.int 917616 529), (.int 917617 530), (.int 917618 531), (.int 917619 532), (.int 917620 533), (.int 917621 534), (.int 917622 535), (.int 917623 536), (.int 917624 537), (.int 917625 538), (.int 917626 539), (.int 917627 540), (.int 917628 541), (.int 917629 542), (.int 917630 543), (.int 917631 544)] 0, #[]⟩
noncomputable def ob158 (P : Params) : Obj := ⟨(.type "set"), none, .set #[(917505, (.int 917505 443)), (917536, (.int 917536 449)), (917537, (.int 917537 450)), (917538, (.int 917538 451)), (917539, (.int 917539 452)), (917540, (.int 917540 453)), (917541, (.int 917541 454)), (917542, (.int 917542 455)), (917543, (.int 917543 456)), (917544, (.int 917544 457)), (917545, (.int 917545 458)), (917546, (.int 917546 459)), (917547, (.int 917547 460)), (917548, (.int 917548 461)), (917549, (.int 917549 462)), (917550, (.int 917550 463)), (917551, (.int 917551 464)), (917552, (.int 917552 465)), (917553, (.int 917553 466)), (917554, (.int 917554 467)), (917555, (.int 917555 468)), (917556, (.int 917556 469)), (917557, (.int 917557 470)), (917558, (.int 917558 471)), (917559, (.int 917559 472)), (917560, (.int 917560 473)), (917561, (.int 917561 474)), (917562, (.int 917562 475)), (917563, (.int 917563 476)), (917564, (.int 917564 477)), (917565, (.int 917565 478)), (917566, (.int 917566 479)), (917567, (.int 917567 480)), (917568, (.int 917568 481)), (917569, (.int 917569 482)), (917570, (.int 917570 483)), (917571, (.int 917571 484)), (917572, (.int 917572 485)), (917573, (.int 917573 486)), (917574, (.int 917574 487)), (917575, (.int 917575 488)), (917576, (.int 917576 489)), (917577, (.int 917577 490)), (917578, (.int 917578 491)), (917579, (.int 917579 492)), (917580, (.int 917580 493)), (917581, (.int 917581 494)), (917582, (.int 917582 495)), (917583, (.int 917583 496)), (917584, (.int 917584 497)), (917585, (.int 917585 498)), (917586, (.int 917586 499)), (917587, (.int 917587 500)), (917588, (.int 917588 501)), (917589, (.int 917589 502)), (917590, (.int 917590 503)), (917591, (.int 917591 504)), (917592, (.int 917592 505)), (917593, (.int 917593 506)), (917594, (.int 917594 507)), (917595, (.int 917595 508)), (917596, (.int 917596 509)), (917597, (.int 917597 510)), (917598, (.int 917598 511)), (917599, (.int 917599 512)), (917600, (.int 917600 513)), (917601, (.int 917601 514)), (917602, (.int 917602 515)), (917603, (.int 917603 516)), (917604, (.int 917604 517)), (917605, (.int 917605 518)), (917606, (.int 917606 519)), (917607, (.int 917607 520)), (917608, (.int 917608 521)), (917609, (.int 917609 522)), (917610, (.int 917610 523)), (917611, (.int 917611 524)), (917612, (.int 917612 525)), (917613, (.int 917613 526)), (917614, (.int 917614 527)), (917615, (.int 917615 528)), (917616, (.int 917616 529)), (917617, (.int 917617 530)), (917618, (.int 917618 531)), (917619, (.int 917619 532)), (917620, (.int 917620 533)), (917621, (.int 917621 534)), (917622, (.int 917622 535)), (917623, (.int 917623 536)), (917624, (.int 917624 537)), (917625, (.int 917625 538)), (917626, (.int 917626 539)), (917627, (.int 917627 540)), (917628, (.int 917628 541)), (917629, (.int 917629 542)), (917630, (.int 917630 543)), (917631, (.int 917631 544))] 100 { mask := 511, place := #[1, 32, 33, 34, 35, 36, 37, 38, 39, 40, 41, 42, 43, 44, 45, 46, 47, 48, 49, 50, 51, 52, 53, 54, 55, 56, 57, 58, 59, 60, 61, 62, 63, 64, 65, 66, 67, 68, 69, 70, 71, 72, 73, 74, 75, 76, 77, 78, 79, 80, 81, 82, 83, 84, 85, 86, 87, 88, 89, 90, 91, 92, 93, 94, 95, 96, 97, 98, 99, 100, 101, 102, 103, 104, 105, 106, 107, 108, 109, 110, 111, 112, 113, 114, 115, 116, 117, 118, 119, 120, 121, 122, 123, 124, 125, 126, 127], dummies := #[], finger := 0, led := !(P.followText "set-order"), moves := 3, plain := true }, #[]⟩
noncomputable def ob159 (_ : Params) : Obj := ⟨(.type "list_iterator"), none, .fields #[.none, (.int 97 0)], #[]⟩
noncomputable def ob160 (_ : Params) : Obj := ⟨(.type "tuple"), none, .seq #[] 0, #[]⟩
noncomputable def ob161 (_ : Params) : Obj := ⟨(.type "StopIteration"), none, .fields #[(.ref 160), .none, .none, .none, (.bool false), .none], #[]⟩
noncomputable def sP22T (P : Params) : BT := (.node (boot_o_0 P) (.node (boot_o_1 P) (.node (ob150 P) (.node (boot_o_7 P) (.node (ob6 P) (.node (ob22 P) (.node (ob54 P) (.node (ob124 P) .nil .nil) .nil) (.node (ob89 P) (.node (ob159 P) .nil .nil) .nil)) (.node (ob38 P) (.node (ob71 P) (.node (ob140 P) .nil .nil) .nil) (.node (ob105 P) .nil .nil))) (.node (ob14 P) (.node (ob30 P) (.node (ob63 P) (.node (ob132 P) .nil .nil) .nil) (.node (ob97 P) .nil .nil)) (.node (ob46 P) (.node (ob81 P) (.node (ob151 P) .nil .nil) .nil) (.node (ob115 P) .nil .nil)))) (.node (ob0 P) (.node (ob10 P) (.node (ob26 P) (.node (ob58 P) (.node (ob128 P) .nil .nil) .nil) (.node (ob93 P) .nil .nil)) (.node (ob42 P) (.node (ob77 P) (.node (ob146 P) .nil .nil) .nil) (.node (ob111 P) .nil .nil))) (.node (ob18 P) (.node (ob34 P) (.node (ob67 P) (.node (ob136 P) .nil .nil) .nil) (.node (ob101 P) .nil .nil)) (.node (ob50 P) (.node (ob85 P) (.node (ob155 P) .nil .nil) .nil) (.node (ob119 P) .nil .nil))))) (.node (boot_o_5 P) (.node (boot_o_9 P) (.node (ob8 P) (.node (ob24 P) (.node (ob56 P) (.node (ob126 P) .nil .nil) .nil) (.node (ob91 P) (.node (ob161 P) .nil .nil) .nil)) (.node (ob40 P) (.node (ob73 P) (.node (ob144 P) .nil .nil) .nil) (.node (ob107 P) .nil .nil))) (.node (ob16 P) (.node (ob32 P) (.node (ob65 P) (.node (ob134 P) .nil .nil) .nil) (.node (ob99 P) .nil .nil)) (.node (ob48 P) (.node (ob83 P) (.node (ob153 P) .nil .nil) .nil) (.node (ob117 P) .nil .nil)))) (.node (ob2 P) (.node (ob12 P) (.node (ob28 P) (.node (ob60 P) (.node (ob130 P) .nil .nil) .nil) (.node (ob95 P) .nil .nil)) (.node (ob44 P) (.node (ob79 P) (.node (ob148 P) .nil .nil) .nil) (.node (ob113 P) .nil .nil))) (.node (ob20 P) (.node (ob36 P) (.node (ob69 P) (.node (ob138 P) .nil .nil) .nil) (.node (ob103 P) .nil .nil)) (.node (ob52 P) (.node (ob87 P) (.node (ob157 P) .nil .nil) .nil) (.node (ob121 P) .nil .nil)))))) (.node (boot_o_2 P) (.node (boot_o_4 P) (.node (boot_o_8 P) (.node (ob7 P) (.node (ob23 P) (.node (ob55 P) (.node (ob125 P) .nil .nil) .nil) (.node (ob90 P) (.node (ob160 P) .nil .nil) .nil)) (.node (ob39 P) (.node (ob72 P) (.node (ob143 P) .nil .nil) .nil) (.node (ob106 P) .nil .nil))) (.node (ob15 P) (.node (ob31 P) (.node (ob64 P) (.node (ob133 P) .nil .nil) .nil) (.node (ob98 P) .nil .nil)) (.node (ob47 P) (.node (ob82 P) (.node (ob152 P) .nil .nil) .nil) (.node (ob116 P) .nil .nil)))) (.node (ob142 P) (.node (ob11 P) (.node (ob27 P) (.node (ob59 P) (.node (ob129 P) .nil .nil) .nil) (.node (ob94 P) .nil .nil)) (.node (ob43 P) (.node (ob78 P) (.node (ob147 P) .nil .nil) .nil) (.node (ob112 P) .nil .nil))) (.node (ob19 P) (.node (ob35 P) (.node (ob68 P) (.node (ob137 P) .nil .nil) .nil) (.node (ob102 P) .nil .nil)) (.node (ob51 P) (.node (ob86 P) (.node (ob156 P) .nil .nil) .nil) (.node (ob120 P) .nil .nil))))) (.node (boot_o_6 P) (.node (boot_o_10 P) (.node (ob9 P) (.node (ob25 P) (.node (ob57 P) (.node (ob127 P) .nil .nil) .nil) (.node (ob92 P) .nil .nil)) (.node (ob41 P) (.node (ob76 P) (.node (ob145 P) .nil .nil) .nil) (.node (ob108 P) .nil .nil))) (.node (ob17 P) (.node (ob33 P) (.node (ob66 P) (.node (ob135 P) .nil .nil) .nil) (.node (ob100 P) .nil .nil)) (.node (ob49 P) (.node (ob84 P) (.node (ob154 P) .nil .nil) .nil) (.node (ob118 P) .nil .nil)))) (.node (ob3 P) (.node (ob13 P) (.node (ob29 P) (.node (ob61 P) (.node (ob131 P) .nil .nil) .nil) (.node (ob96 P) .nil .nil)) (.node (ob45 P) (.node (ob80 P) (.node (ob149 P) .nil .nil) .nil) (.node (ob114 P) .nil .nil))) (.node (ob21 P) (.node (ob37 P) (.node (ob70 P) (.node (ob139 P) .nil .nil) .nil) (.node (ob104 P) .nil .nil)) (.node (ob53 P) (.node (ob88 P) (.node (ob158 P) .nil .nil) .nil) (.node (ob122 P) .nil .nil)))))))
noncomputable def sP22 (w : World) (os : OsState) : SharedT := ⟨sP22T w.params, 162, hlife, Array.mk [], ⟨0, 0, 0, 0⟩, 643, os⟩
noncomputable def sts21 : List Stmt := [stK 21]
noncomputable def ob162 (P : Params) : Obj := ⟨(.type "dict"), none, .dict #[⟨PyData.keyHash P (.ofString "__name__"), (.str (.ofString "__name__") 165), (.str (.ofString "law_yf0003_01") 650)⟩, ⟨PyData.keyHash P (.ofString "__doc__"), (.str (.ofString "__doc__") 166), .none⟩, ⟨PyData.keyHash P (.ofString "__package__"), (.str (.ofString "__package__") 167), .none⟩, ⟨PyData.keyHash P (.ofString "__loader__"), (.str (.ofString "__loader__") 168), (.builtin "__main__.__loader__#opaque")⟩, ⟨PyData.keyHash P (.ofString "__spec__"), (.str (.ofString "__spec__") 169), .none⟩, ⟨PyData.keyHash P (.ofString "__annotations__"), (.str (.ofString "__annotations__") 170), (.ref 6)⟩, ⟨PyData.keyHash P (.ofString "__builtins__"), (.str (.ofString "__builtins__") 171), (.ref 4)⟩, ⟨PyData.keyHash P (.ofString "__file__"), (.str (.ofString "__file__") 173), (.str (.ofString "/claim/cut.py") 172)⟩, ⟨PyData.keyHash P (.ofString "__cached__"), (.str (.ofString "__cached__") 174), .none⟩, ⟨PyData.keyHash P (.ofString "not_"), (.str (.ofString "not_") 195), (.ref 21)⟩, ⟨PyData.keyHash P (.ofString "is_not"), (.str (.ofString "is_not") 203), (.ref 28)⟩, ⟨PyData.keyHash P (.ofString "and_"), (.str (.ofString "and_") 211), (.ref 35)⟩, ⟨PyData.keyHash P (.ofString "inv"), (.str (.ofString "inv") 218), (.ref 42)⟩, ⟨PyData.keyHash P (.ofString "contains"), (.str (.ofString "contains") 226), (.ref 49)⟩, ⟨PyData.keyHash P (.ofString "iadd"), (.str (.ofString "iadd") 234), (.ref 56)⟩, ⟨PyData.keyHash P (.ofString "ilshift"), (.str (.ofString "ilshift") 242), (.ref 63)⟩, ⟨PyData.keyHash P (.ofString "Int2AP"), (.str (.ofString "Int2AP") 254), (.ref 70)⟩, ⟨PyData.keyHash P (.ofString "b1_set"), (.str (.ofString "b1_set") 316), (.ref 78)⟩, ⟨PyData.keyHash P (.ofString "in_table_b1"), (.str (.ofString "in_table_b1") 323), (.ref 88)⟩, ⟨PyData.keyHash P (.ofString "in_table_c11"), (.str (.ofString "in_table_c11") 330), (.ref 95)⟩, ⟨PyData.keyHash P (.ofString "in_table_c4"), (.str (.ofString "in_table_c4") 338), (.ref 102)⟩, ⟨PyData.keyHash P (.ofString "c6_set"), (.str (.ofString "c6_set") 352), (.ref 104)⟩, ⟨PyData.keyHash P (.ofString "in_table_c6"), (.str (.ofString "in_table_c6") 359), (.ref 114)⟩, ⟨PyData.keyHash P (.ofString "c7_set"), (.str (.ofString "c7_set") 387), (.ref 116)⟩, ⟨PyData.keyHash P (.ofString "in_table_c7"), (.str (.ofString "in_table_c7") 394), (.ref 126)⟩, ⟨PyData.keyHash P (.ofString "c8_set"), (.str (.ofString "c8_set") 435), (.ref 140)⟩, ⟨PyData.keyHash P (.ofString "in_table_c8"), (.str (.ofString "in_table_c8") 442), (.ref 150)⟩, ⟨PyData.keyHash P (.ofString "c9_set"), (.str (.ofString "c9_set") 642), (.ref 158)⟩, ⟨PyData.keyHash P (.ofString "in_table_c9"), (.str (.ofString "in_table_c9") 649), (.ref 168)⟩, ⟨PyData.keyHash P (.ofString "_law_runs"), (.str (.ofString "_law_runs") 657), (.ref 173)⟩, ⟨PyData.keyHash P (.ofString "_law_within"), (.str (.ofString "_law_within") 663), (.ref 178)⟩, ⟨PyData.keyHash P (.ofString "_law_beyond"), (.str (.ofString "_law_beyond") 669), (.ref 183)⟩, ⟨PyData.keyHash P (.ofString "_law_seen"), (.str (.ofString "_law_seen") 675), (.ref 188)⟩, ⟨PyData.keyHash P (.ofString "_law_rings"), (.str (.ofString "_law_rings") 684), (.ref 195)⟩, ⟨PyData.keyHash P (.ofString "_law_roads"), (.str (.ofString "_law_roads") 690), (.ref 200)⟩, ⟨PyData.keyHash P (.ofString "_law_worth"), (.str (.ofString "_law_worth") 696), (.ref 205)⟩, ⟨PyData.keyHash P (.ofString "law"), (.str (.ofString "law") 702), (.ref 210)⟩] 37, #[]⟩
noncomputable def ob163 (_ : Params) : Obj := ⟨.none, none, .fields #[(.int 2 0), (.int 0 0), (.ref 20), (.int 4 0), (.int 0 0), (.ref 27), (.int 6 0), (.int 0 0), (.ref 34), (.int 8 0), (.int 0 0), (.ref 41), (.int 10 0), (.int 0 0), (.ref 48), (.int 12 0), (.int 0 0), (.ref 55), (.int 15 0), (.int 0 0), (.ref 62), (.int 19 0), (.int 0 0), (.ref 69), (.int 29 0), (.int 0 0), (.ref 87), (.int 31 0), (.int 0 0), (.ref 94), (.int 33 0), (.int 0 0), (.ref 101), (.int 41 0), (.int 0 0), (.ref 113), (.int 44 0), (.int 0 0), (.ref 125), (.int 47 0), (.int 0 0), (.ref 149), (.int 50 0), (.int 0 0), (.ref 167), (.int 53 0), (.int 0 0), (.ref 172), (.int 59 0), (.int 0 0), (.ref 177), (.int 65 0), (.int 0 0), (.ref 182), (.int 75 0), (.int 0 0), (.ref 187), (.int 93 0), (.int 0 0), (.ref 194), (.int 99 0), (.int 0 0), (.ref 199), (.int 110 0), (.int 0 0), (.ref 204), (.int 116 0), (.int 0 0), (.ref 209)], #[]⟩
noncomputable def ob164 (_ : Params) : Obj := ⟨(.type "tuple"), none, .seq #[] 0, #[]⟩
noncomputable def ob165 (_ : Params) : Obj := ⟨.none, none, .fields #[], #[]⟩
noncomputable def ob166 (_ : Params) : Obj := ⟨(.type "tuple"), none, .seq #[(.str (.ofString "code") 646)] 0, #[]⟩
noncomputable def ob167 (_ : Params) : Obj := ⟨(.type "tuple"), none, .seq #[] 0, #[]⟩
noncomputable def ob168 (_ : Params) : Obj := ⟨.none, none, .func { name := (.ofString "in_table_c9"), qualname := (.ofString "in_table_c9"), params := fnP 22, body := .stmts (fnB 22), scope := fnS 22, globals := 0, closure := [], defaults := .none, kwdefaults := .none, doc := .none, pyModule := .none, annotations := none, code := .none, closureTuple := .none, builtins := 0 }, #[]⟩
noncomputable def ob169 (_ : Params) : Obj := ⟨(.type "code"), none, .fields #[(.str (.ofString "in_table_c9") 643), (.str (.ofString "in_table_c9") 644), (.str (.ofString "/claim/cut.py") 645), (.int 50 0), (.int 1 0), (.int 0 0), (.int 0 0), (.int 3 0), (.ref 162), (.bool true), (.int 181 0), (.ref 163), .none, (.ref 164), (.ref 165), (.ref 166), (.int 647 0), (.int 50 0), (.str (.ofString "/claim/cut.py") 648)], #[]⟩
noncomputable def ob170 (_ : Params) : Obj := ⟨(.type "function"), none, .func { name := (.ofString "in_table_c9"), qualname := (.ofString "in_table_c9"), params := fnP 22, body := .stmts (fnB 22), scope := fnS 22, globals := 3, closure := [], defaults := .none, kwdefaults := .none, doc := .none, pyModule := (.str (.ofString "cpy313.stringprep") 255), annotations := none, code := (.ref 167), closureTuple := .none, builtins := 0 }, #[]⟩
noncomputable def ob171 (_ : Params) : Obj := ⟨(.type "tuple"), none, .seq #[] 0, #[]⟩
noncomputable def ob172 (_ : Params) : Obj := ⟨.none, none, .fields #[], #[]⟩
noncomputable def ob173 (_ : Params) : Obj := ⟨.none, none, .func { name := (.ofString "_law_runs"), qualname := (.ofString "_law_runs"), params := fnP 24, body := .stmts (fnB 24), scope := fnS 24, globals := 0, closure := [], defaults := .none, kwdefaults := .none, doc := .none, pyModule := .none, annotations := none, code := .none, closureTuple := .none, builtins := 0 }, #[]⟩
noncomputable def ob174 (_ : Params) : Obj := ⟨(.type "code"), none, .fields #[(.str (.ofString "_law_runs") 652), (.str (.ofString "_law_runs") 653), (.str (.ofString "/claim/cut.py") 654), (.int 53 0), (.int 0 0), (.int 0 0), (.int 0 0), (.int 3 0), (.ref 169), (.bool true), (.int 181 0), (.ref 170), .none, .none, .none, (.ref 171), (.int 655 0), (.int 53 0), (.str (.ofString "/claim/cut.py") 656)], #[]⟩
noncomputable def ob175 (_ : Params) : Obj := ⟨(.type "function"), none, .func { name := (.ofString "_law_runs"), qualname := (.ofString "_law_runs"), params := fnP 24, body := .stmts (fnB 24), scope := fnS 24, globals := 3, closure := [], defaults := .none, kwdefaults := .none, doc := .none, pyModule := (.str (.ofString "law_yf0003_01") 650), annotations := none, code := (.ref 172), closureTuple := .none, builtins := 0 }, #[]⟩
noncomputable def ob176 (_ : Params) : Obj := ⟨(.type "tuple"), none, .seq #[] 0, #[]⟩
noncomputable def ob177 (_ : Params) : Obj := ⟨.none, none, .fields #[], #[]⟩
noncomputable def ob178 (_ : Params) : Obj := ⟨.none, none, .func { name := (.ofString "_law_within"), qualname := (.ofString "_law_within"), params := fnP 25, body := .stmts (fnB 25), scope := fnS 25, globals := 0, closure := [], defaults := .none, kwdefaults := .none, doc := .none, pyModule := .none, annotations := none, code := .none, closureTuple := .none, builtins := 0 }, #[]⟩
noncomputable def ob179 (_ : Params) : Obj := ⟨(.type "code"), none, .fields #[(.str (.ofString "_law_within") 658), (.str (.ofString "_law_within") 659), (.str (.ofString "/claim/cut.py") 660), (.int 59 0), (.int 2 0), (.int 0 0), (.int 0 0), (.int 3 0), (.ref 174), (.bool true), (.int 181 0), (.ref 175), .none, .none, .none, (.ref 176), (.int 661 0), (.int 59 0), (.str (.ofString "/claim/cut.py") 662)], #[]⟩
noncomputable def ob180 (_ : Params) : Obj := ⟨(.type "function"), none, .func { name := (.ofString "_law_within"), qualname := (.ofString "_law_within"), params := fnP 25, body := .stmts (fnB 25), scope := fnS 25, globals := 3, closure := [], defaults := .none, kwdefaults := .none, doc := .none, pyModule := (.str (.ofString "law_yf0003_01") 650), annotations := none, code := (.ref 177), closureTuple := .none, builtins := 0 }, #[]⟩
noncomputable def ob181 (_ : Params) : Obj := ⟨(.type "tuple"), none, .seq #[] 0, #[]⟩
noncomputable def ob182 (_ : Params) : Obj := ⟨.none, none, .fields #[], #[]⟩
noncomputable def ob183 (_ : Params) : Obj := ⟨.none, none, .func { name := (.ofString "_law_beyond"), qualname := (.ofString "_law_beyond"), params := fnP 26, body := .stmts (fnB 26), scope := fnS 26, globals := 0, closure := [], defaults := .none, kwdefaults := .none, doc := .none, pyModule := .none, annotations := none, code := .none, closureTuple := .none, builtins := 0 }, #[]⟩
noncomputable def ob184 (_ : Params) : Obj := ⟨(.type "code"), none, .fields #[(.str (.ofString "_law_beyond") 664), (.str (.ofString "_law_beyond") 665), (.str (.ofString "/claim/cut.py") 666), (.int 65 0), (.int 2 0), (.int 0 0), (.int 0 0), (.int 3 0), (.ref 179), (.bool true), (.int 181 0), (.ref 180), .none, .none, .none, (.ref 181), (.int 667 0), (.int 65 0), (.str (.ofString "/claim/cut.py") 668)], #[]⟩
noncomputable def ob185 (_ : Params) : Obj := ⟨(.type "function"), none, .func { name := (.ofString "_law_beyond"), qualname := (.ofString "_law_beyond"), params := fnP 26, body := .stmts (fnB 26), scope := fnS 26, globals := 3, closure := [], defaults := .none, kwdefaults := .none, doc := .none, pyModule := (.str (.ofString "law_yf0003_01") 650), annotations := none, code := (.ref 182), closureTuple := .none, builtins := 0 }, #[]⟩
noncomputable def ob186 (_ : Params) : Obj := ⟨(.type "tuple"), none, .seq #[] 0, #[]⟩
noncomputable def ob187 (_ : Params) : Obj := ⟨.none, none, .fields #[], #[]⟩
noncomputable def ob188 (_ : Params) : Obj := ⟨.none, none, .func { name := (.ofString "_law_seen"), qualname := (.ofString "_law_seen"), params := fnP 27, body := .stmts (fnB 27), scope := fnS 27, globals := 0, closure := [], defaults := .none, kwdefaults := .none, doc := .none, pyModule := .none, annotations := none, code := .none, closureTuple := .none, builtins := 0 }, #[]⟩
noncomputable def ob189 (_ : Params) : Obj := ⟨(.type "code"), none, .fields #[(.str (.ofString "_law_seen") 670), (.str (.ofString "_law_seen") 671), (.str (.ofString "/claim/cut.py") 672), (.int 75 0), (.int 2 0), (.int 0 0), (.int 0 0), (.int 3 0), (.ref 184), (.bool true), (.int 181 0), (.ref 185), .none, .none, .none, (.ref 186), (.int 673 0), (.int 75 0), (.str (.ofString "/claim/cut.py") 674)], #[]⟩
noncomputable def ob190 (_ : Params) : Obj := ⟨(.type "function"), none, .func { name := (.ofString "_law_seen"), qualname := (.ofString "_law_seen"), params := fnP 27, body := .stmts (fnB 27), scope := fnS 27, globals := 3, closure := [], defaults := .none, kwdefaults := .none, doc := .none, pyModule := (.str (.ofString "law_yf0003_01") 650), annotations := none, code := (.ref 187), closureTuple := .none, builtins := 0 }, #[]⟩
noncomputable def ob191 (_ : Params) : Obj := ⟨(.type "tuple"), none, .seq #[] 0, #[]⟩
noncomputable def ob192 (_ : Params) : Obj := ⟨.none, none, .fields #[], #[]⟩
noncomputable def ob193 (_ : Params) : Obj := ⟨(.type "tuple"), none, .seq #[(.str (.ofString "way") 679), (.str (.ofString "rings") 680), (.str (.ofString "guest") 681)] 0, #[]⟩
noncomputable def ob194 (_ : Params) : Obj := ⟨(.type "tuple"), none, .seq #[] 0, #[]⟩
noncomputable def ob195 (_ : Params) : Obj := ⟨.none, none, .func { name := (.ofString "_law_rings"), qualname := (.ofString "_law_rings"), params := fnP 28, body := .stmts (fnB 28), scope := fnS 28, globals := 0, closure := [], defaults := .none, kwdefaults := .none, doc := .none, pyModule := .none, annotations := none, code := .none, closureTuple := .none, builtins := 0 }, #[]⟩
noncomputable def ob196 (_ : Params) : Obj := ⟨(.type "code"), none, .fields #[(.str (.ofString "_law_rings") 676), (.str (.ofString "_law_rings") 677), (.str (.ofString "/claim/cut.py") 678), (.int 93 0), (.int 2 0), (.int 0 0), (.int 0 0), (.int 3 0), (.ref 189), (.bool true), (.int 181 0), (.ref 190), .none, (.ref 191), (.ref 192), (.ref 193), (.int 682 0), (.int 93 0), (.str (.ofString "/claim/cut.py") 683)], #[]⟩
noncomputable def ob197 (_ : Params) : Obj := ⟨(.type "function"), none, .func { name := (.ofString "_law_rings"), qualname := (.ofString "_law_rings"), params := fnP 28, body := .stmts (fnB 28), scope := fnS 28, globals := 3, closure := [], defaults := .none, kwdefaults := .none, doc := .none, pyModule := (.str (.ofString "law_yf0003_01") 650), annotations := none, code := (.ref 194), closureTuple := .none, builtins := 0 }, #[]⟩
noncomputable def ob198 (_ : Params) : Obj := ⟨(.type "tuple"), none, .seq #[] 0, #[]⟩
noncomputable def ob199 (_ : Params) : Obj := ⟨.none, none, .fields #[], #[]⟩
noncomputable def ob200 (_ : Params) : Obj := ⟨.none, none, .func { name := (.ofString "_law_roads"), qualname := (.ofString "_law_roads"), params := fnP 29, body := .stmts (fnB 29), scope := fnS 29, globals := 0, closure := [], defaults := .none, kwdefaults := .none, doc := .none, pyModule := .none, annotations := none, code := .none, closureTuple := .none, builtins := 0 }, #[]⟩
noncomputable def ob201 (_ : Params) : Obj := ⟨(.type "code"), none, .fields #[(.str (.ofString "_law_roads") 685), (.str (.ofString "_law_roads") 686), (.str (.ofString "/claim/cut.py") 687), (.int 99 0), (.int 3 0), (.int 0 0), (.int 0 0), (.int 3 0), (.ref 196), (.bool true), (.int 181 0), (.ref 197), .none, .none, .none, (.ref 198), (.int 688 0), (.int 99 0), (.str (.ofString "/claim/cut.py") 689)], #[]⟩
noncomputable def ob202 (_ : Params) : Obj := ⟨(.type "function"), none, .func { name := (.ofString "_law_roads"), qualname := (.ofString "_law_roads"), params := fnP 29, body := .stmts (fnB 29), scope := fnS 29, globals := 3, closure := [], defaults := .none, kwdefaults := .none, doc := .none, pyModule := (.str (.ofString "law_yf0003_01") 650), annotations := none, code := (.ref 199), closureTuple := .none, builtins := 0 }, #[]⟩
noncomputable def ob203 (_ : Params) : Obj := ⟨(.type "tuple"), none, .seq #[] 0, #[]⟩
noncomputable def ob204 (_ : Params) : Obj := ⟨.none, none, .fields #[], #[]⟩
noncomputable def ob205 (_ : Params) : Obj := ⟨.none, none, .func { name := (.ofString "_law_worth"), qualname := (.ofString "_law_worth"), params := fnP 30, body := .stmts (fnB 30), scope := fnS 30, globals := 0, closure := [], defaults := .none, kwdefaults := .none, doc := .none, pyModule := .none, annotations := none, code := .none, closureTuple := .none, builtins := 0 }, #[]⟩
noncomputable def ob206 (_ : Params) : Obj := ⟨(.type "code"), none, .fields #[(.str (.ofString "_law_worth") 691), (.str (.ofString "_law_worth") 692), (.str (.ofString "/claim/cut.py") 693), (.int 110 0), (.int 2 0), (.int 0 0), (.int 0 0), (.int 3 0), (.ref 201), (.bool true), (.int 181 0), (.ref 202), .none, .none, .none, (.ref 203), (.int 694 0), (.int 110 0), (.str (.ofString "/claim/cut.py") 695)], #[]⟩
noncomputable def ob207 (_ : Params) : Obj := ⟨(.type "function"), none, .func { name := (.ofString "_law_worth"), qualname := (.ofString "_law_worth"), params := fnP 30, body := .stmts (fnB 30), scope := fnS 30, globals := 3, closure := [], defaults := .none, kwdefaults := .none, doc := .none, pyModule := (.str (.ofString "law_yf0003_01") 650), annotations := none, code := (.ref 204), closureTuple := .none, builtins := 0 }, #[]⟩
noncomputable def ob208 (_ : Params) : Obj := ⟨(.type "tuple"), none, .seq #[] 0, #[]⟩
noncomputable def ob209 (_ : Params) : Obj := ⟨.none, none, .fields #[], #[]⟩
noncomputable def ob210 (_ : Params) : Obj := ⟨.none, none, .func { name := (.ofString "law"), qualname := (.ofString "law"), params := fnP 31, body := .stmts (fnB 31), scope := fnS 31, globals := 0, closure := [], defaults := .none, kwdefaults := .none, doc := .none, pyModule := .none, annotations := none, code := .none, closureTuple := .none, builtins := 0 }, #[]⟩
noncomputable def ob211 (_ : Params) : Obj := ⟨(.type "code"), none, .fields #[(.str (.ofString "law") 697), (.str (.ofString "law") 698), (.str (.ofString "/claim/cut.py") 699), (.int 116 0), (.int 1 0), (.int 0 0), (.int 0 0), (.int 3 0), (.ref 206), (.bool true), (.int 181 0), (.ref 207), .none, .none, .none, (.ref 208), (.int 700 0), (.int 116 0), (.str (.ofString "/claim/cut.py") 701)], #[]⟩
noncomputable def ob212 (_ : Params) : Obj := ⟨(.type "function"), none, .func { name := (.ofString "law"), qualname := (.ofString "law"), params := fnP 31, body := .stmts (fnB 31), scope := fnS 31, globals := 3, closure := [], defaults := .none, kwdefaults := .none, doc := .none, pyModule := (.str (.ofString "law_yf0003_01") 650), annotations := none, code := (.ref 209), closureTuple := .none, builtins := 0 }, #[]⟩
noncomputable def sP32T (P : Params) : BT := (.node (boot_o_0 P) (.node (boot_o_1 P) (.node (ob162 P) (.node (boot_o_7 P) (.node (ob6 P) (.node (ob22 P) (.node (ob54 P) (.node (ob124 P) .nil .nil) (.node (ob193 P) .nil .nil)) (.node (ob89 P) (.node (ob159 P) .nil .nil) .nil)) (.node (ob38 P) (.node (ob71 P) (.node (ob140 P) .nil .nil) (.node (ob209 P) .nil .nil)) (.node (ob105 P) (.node (ob177 P) .nil .nil) .nil))) (.node (ob14 P) (.node (ob30 P) (.node (ob63 P) (.node (ob132 P) .nil .nil) (.node (ob201 P) .nil .nil)) (.node (ob97 P) (.node (ob169 P) .nil .nil) .nil)) (.node (ob46 P) (.node (ob81 P) (.node (ob151 P) .nil .nil) .nil) (.node (ob115 P) (.node (ob185 P) .nil .nil) .nil)))) (.node (ob0 P) (.node (ob10 P) (.node (ob26 P) (.node (ob58 P) (.node (ob128 P) .nil .nil) (.node (ob197 P) .nil .nil)) (.node (ob93 P) (.node (ob165 P) .nil .nil) .nil)) (.node (ob42 P) (.node (ob77 P) (.node (ob146 P) .nil .nil) .nil) (.node (ob111 P) (.node (ob181 P) .nil .nil) .nil))) (.node (ob18 P) (.node (ob34 P) (.node (ob67 P) (.node (ob136 P) .nil .nil) (.node (ob205 P) .nil .nil)) (.node (ob101 P) (.node (ob173 P) .nil .nil) .nil)) (.node (ob50 P) (.node (ob85 P) (.node (ob155 P) .nil .nil) .nil) (.node (ob119 P) (.node (ob189 P) .nil .nil) .nil))))) (.node (boot_o_5 P) (.node (boot_o_9 P) (.node (ob8 P) (.node (ob24 P) (.node (ob56 P) (.node (ob126 P) .nil .nil) (.node (ob195 P) .nil .nil)) (.node (ob91 P) (.node (ob161 P) .nil .nil) .nil)) (.node (ob40 P) (.node (ob73 P) (.node (ob144 P) .nil .nil) (.node (ob211 P) .nil .nil)) (.node (ob107 P) (.node (ob179 P) .nil .nil) .nil))) (.node (ob16 P) (.node (ob32 P) (.node (ob65 P) (.node (ob134 P) .nil .nil) (.node (ob203 P) .nil .nil)) (.node (ob99 P) (.node (ob171 P) .nil .nil) .nil)) (.node (ob48 P) (.node (ob83 P) (.node (ob153 P) .nil .nil) .nil) (.node (ob117 P) (.node (ob187 P) .nil .nil) .nil)))) (.node (ob2 P) (.node (ob12 P) (.node (ob28 P) (.node (ob60 P) (.node (ob130 P) .nil .nil) (.node (ob199 P) .nil .nil)) (.node (ob95 P) (.node (ob167 P) .nil .nil) .nil)) (.node (ob44 P) (.node (ob79 P) (.node (ob148 P) .nil .nil) .nil) (.node (ob113 P) (.node (ob183 P) .nil .nil) .nil))) (.node (ob20 P) (.node (ob36 P) (.node (ob69 P) (.node (ob138 P) .nil .nil) (.node (ob207 P) .nil .nil)) (.node (ob103 P) (.node (ob175 P) .nil .nil) .nil)) (.node (ob52 P) (.node (ob87 P) (.node (ob157 P) .nil .nil) .nil) (.node (ob121 P) (.node (ob191 P) .nil .nil) .nil)))))) (.node (boot_o_2 P) (.node (boot_o_4 P) (.node (boot_o_8 P) (.node (ob7 P) (.node (ob23 P) (.node (ob55 P) (.node (ob125 P) .nil .nil) (.node (ob194 P) .nil .nil)) (.node (ob90 P) (.node (ob160 P) .nil .nil) .nil)) (.node (ob39 P) (.node (ob72 P) (.node (ob143 P) .nil .nil) (.node (ob210 P) .nil .nil)) (.node (ob106 P) (.node (ob178 P) .nil .nil) .nil))) (.node (ob15 P) (.node (ob31 P) (.node (ob64 P) (.node (ob133 P) .nil .nil) (.node (ob202 P) .nil .nil)) (.node (ob98 P) (.node (ob170 P) .nil .nil) .nil)) (.node (ob47 P) (.node (ob82 P) (.node (ob152 P) .nil .nil) .nil) (.node (ob116 P) (.node (ob186 P) .nil .nil) .nil)))) (.node (ob163 P) (.node (ob11 P) (.node (ob27 P) (.node (ob59 P) (.node (ob129 P) .nil .nil) (.node (ob198 P) .nil .nil)) (.node (ob94 P) (.node (ob166 P) .nil .nil) .nil)) (.node (ob43 P) (.node (ob78 P) (.node (ob147 P) .nil .nil) .nil) (.node (ob112 P) (.node (ob182 P) .nil .nil) .nil))) (.node (ob19 P) (.node (ob35 P) (.node (ob68 P) (.node (ob137 P) .nil .nil) (.node (ob206 P) .nil .nil)) (.node (ob102 P) (.node (ob174 P) .nil .nil) .nil)) (.node (ob51 P) (.node (ob86 P) (.node (ob156 P) .nil .nil) .nil) (.node (ob120 P) (.node (ob190 P) .nil .nil) .nil))))) (.node (boot_o_6 P) (.node (boot_o_10 P) (.node (ob9 P) (.node (ob25 P) (.node (ob57 P) (.node (ob127 P) .nil .nil) (.node (ob196 P) .nil .nil)) (.node (ob92 P) (.node (ob164 P) .nil .nil) .nil)) (.node (ob41 P) (.node (ob76 P) (.node (ob145 P) .nil .nil) (.node (ob212 P) .nil .nil)) (.node (ob108 P) (.node (ob180 P) .nil .nil) .nil))) (.node (ob17 P) (.node (ob33 P) (.node (ob66 P) (.node (ob135 P) .nil .nil) (.node (ob204 P) .nil .nil)) (.node (ob100 P) (.node (ob172 P) .nil .nil) .nil)) (.node (ob49 P) (.node (ob84 P) (.node (ob154 P) .nil .nil) .nil) (.node (ob118 P) (.node (ob188 P) .nil .nil) .nil)))) (.node (ob3 P) (.node (ob13 P) (.node (ob29 P) (.node (ob61 P) (.node (ob131 P) .nil .nil) (.node (ob200 P) .nil .nil)) (.node (ob96 P) (.node (ob168 P) .nil .nil) .nil)) (.node (ob45 P) (.node (ob80 P) (.node (ob149 P) .nil .nil) .nil) (.node (ob114 P) (.node (ob184 P) .nil .nil) .nil))) (.node (ob21 P) (.node (ob37 P) (.node (ob70 P) (.node (ob139 P) .nil .nil) (.node (ob208 P) .nil .nil)) (.node (ob104 P) (.node (ob176 P) .nil .nil) .nil)) (.node (ob53 P) (.node (ob88 P) (.node (ob158 P) .nil .nil) .nil) (.node (ob122 P) (.node (ob192 P) .nil .nil) .nil)))))))
noncomputable def sP32 (w : World) (os : OsState) : SharedT := ⟨sP32T w.params, 211, hlife, Array.mk [], ⟨0, 0, 0, 0⟩, 703, os⟩
noncomputable def sts22 : List Stmt := [stK 22, stK 23, stK 24, stK 25, stK 26, stK 27, stK 28, stK 29, stK 30, stK 31]
noncomputable def sFH (P : Params) : Heap := ⟨Array.mk [boot_o_0 P, boot_o_1 P, boot_o_2 P, ob162 P, boot_o_4 P, boot_o_5 P, boot_o_6 P, boot_o_7 P, boot_o_8 P, boot_o_9 P, boot_o_10 P, ob0 P, ob163 P, ob2 P, ob3 P, ob6 P, ob7 P, ob8 P, ob9 P, ob10 P, ob11 P, ob12 P, ob13 P, ob14 P, ob15 P, ob16 P, ob17 P, ob18 P, ob19 P, ob20 P, ob21 P, ob22 P, ob23 P, ob24 P, ob25 P, ob26 P, ob27 P, ob28 P, ob29 P, ob30 P, ob31 P, ob32 P, ob33 P, ob34 P, ob35 P, ob36 P, ob37 P, ob38 P, ob39 P, ob40 P, ob41 P, ob42 P, ob43 P, ob44 P, ob45 P, ob46 P, ob47 P, ob48 P, ob49 P, ob50 P, ob51 P, ob52 P, ob53 P, ob54 P, ob55 P, ob56 P, ob57 P, ob58 P, ob59 P, ob60 P, ob61 P, ob63 P, ob64 P, ob65 P, ob66 P, ob67 P, ob68 P, ob69 P, ob70 P, ob71 P, ob72 P, ob73 P, ob76 P, ob77 P, ob78 P, ob79 P, ob80 P, ob81 P, ob82 P, ob83 P, ob84 P, ob85 P, ob86 P, ob87 P, ob88 P, ob89 P, ob90 P, ob91 P, ob92 P, ob93 P, ob94 P, ob95 P, ob96 P, ob97 P, ob98 P, ob99 P, ob100 P, ob101 P, ob102 P, ob103 P, ob104 P, ob105 P, ob106 P, ob107 P, ob108 P, ob111 P, ob112 P, ob113 P, ob114 P, ob115 P, ob116 P, ob117 P, ob118 P, ob119 P, ob120 P, ob121 P, ob122 P, ob124 P, ob125 P, ob126 P, ob127 P, ob128 P, ob129 P, ob130 P, ob131 P, ob132 P, ob133 P, ob134 P, ob135 P, ob136 P, ob137 P, ob138 P, ob139 P, ob140 P, ob143 P, ob144 P, ob145 P, ob146 P, ob147 P, ob148 P, ob149 P, ob151 P, ob152 P, ob153 P, ob154 P, ob155 P, ob156 P, ob157 P, ob158 P, ob159 P, ob160 P, ob161 P, ob164 P, ob165 P, ob166 P, ob167 P, ob168 P, ob169 P, ob170 P, ob171 P, ob172 P, ob173 P, ob174 P, ob175 P, ob176 P, ob177 P, ob178 P, ob179 P, ob180 P, ob181 P, ob182 P, ob183 P, ob184 P, ob185 P, ob186 P, ob187 P, ob188 P, ob189 P, ob190 P, ob191 P, ob192 P, ob193 P, ob194 P, ob195 P, ob196 P, ob197 P, ob198 P, ob199 P, ob200 P, ob201 P, ob202 P, ob203 P, ob204 P, ob205 P, ob206 P, ob207 P, ob208 P, ob209 P, ob210 P, ob211 P, ob212 P], hlife⟩
noncomputable def sF (w : World) (os : OsState) : Shared := ⟨sFH w.params, Array.mk [], ⟨0, 0, 0, 0⟩, 703, os⟩

noncomputable def envE : Env := { scope := pwH.main.scope, locals := mainNs, globals := mainNs, cells := [], code := .ref 13, frame := some 14 }
noncomputable def bodyL : List Stmt := sts0 ++ (sts11 ++ (sts12 ++ (sts17 ++ (sts19 ++ (sts20 ++ (sts21 ++ (sts22 ++ [])))))))
noncomputable def cE : Code := .body bodyL envE
noncomputable def p0 : Pos := ⟨0, 0, 0, 0⟩
noncomputable def annE : Option Value := some (.ref 6)
noncomputable def PC0 (w : World) : Prop := (fun os => segRunT treeTable pwH w 11 annE 1 268 (sB w os) (piecesOf sts0 envE cE p0 [topFrame p0])) = fun os => some (.next, sP11 w os, cE, ⟨27, 0, 27, 8⟩)
theorem pc0 (w : World) : PC0 w := by unfold PC0; rw [PySem.W.Fast.te10110043849684766642, PySem.W.Fast.te14364793385576792824]; kernel_rfl
noncomputable def PC12 (w : World) : Prop := (fun os => segRunT treeTable pwH w 11 annE 1 317 (sP12 w os) (piecesOf sts12 envE cE ⟨28, 0, 28, 6⟩ [topFrame p0])) = fun os => some (.next, sP17 w os, cE, ⟨41, 0, 42, 30⟩)
theorem pc12_0 (w : World) : PC12 ((w.withFollow "special-get-raises" false).withFollow "set-order" false) := by unfold PC12; rw [PySem.W.Fast.te10110043849684766642, PySem.W.Fast.te14364793385576792824]; kernel_rfl
theorem pc12_1 (w : World) : PC12 ((w.withFollow "special-get-raises" true).withFollow "set-order" false) := by unfold PC12; rw [PySem.W.Fast.te10110043849684766642, PySem.W.Fast.te14364793385576792824]; kernel_rfl
theorem pc12_2 (w : World) : PC12 ((w.withFollow "special-get-raises" false).withFollow "set-order" true) := by unfold PC12; rw [PySem.W.Fast.te10110043849684766642, PySem.W.Fast.te14364793385576792824]; kernel_rfl
theorem pc12_3 (w : World) : PC12 ((w.withFollow "special-get-raises" true).withFollow "set-order" true) := by unfold PC12; rw [PySem.W.Fast.te10110043849684766642, PySem.W.Fast.te14364793385576792824]; kernel_rfl
theorem pc12 : ∀ w : World, PC12 w := byRow2 (P := PC12) "set-order" (byRow2 (P := fun w => PC12 (w.withFollow "set-order" false)) "special-get-raises" pc12_0 pc12_1) (byRow2 (P := fun w => PC12 (w.withFollow "set-order" true)) "special-get-raises" pc12_2 pc12_3)
noncomputable def PC17 (w : World) : Prop := (fun os => segRunT treeTable pwH w 11 annE 1 390 (sP17 w os) (piecesOf sts17 envE cE ⟨41, 0, 42, 30⟩ [topFrame p0])) = fun os => some (.next, sP19 w os, cE, ⟨44, 0, 45, 30⟩)
theorem pc17_0 (w : World) : PC17 ((w.withFollow "special-get-raises" false).withFollow "set-order" false) := by unfold PC17; rw [PySem.W.Fast.te10110043849684766642, PySem.W.Fast.te14364793385576792824]; kernel_rfl
theorem pc17_1 (w : World) : PC17 ((w.withFollow "special-get-raises" true).withFollow "set-order" false) := by unfold PC17; rw [PySem.W.Fast.te10110043849684766642, PySem.W.Fast.te14364793385576792824]; kernel_rfl
theorem pc17_2 (w : World) : PC17 ((w.withFollow "special-get-raises" false).withFollow "set-order" true) := by unfold PC17; rw [PySem.W.Fast.te10110043849684766642, PySem.W.Fast.te14364793385576792824]; kernel_rfl
theorem pc17_3 (w : World) : PC17 ((w.withFollow "special-get-raises" true).withFollow "set-order" true) := by unfold PC17; rw [PySem.W.Fast.te10110043849684766642, PySem.W.Fast.te14364793385576792824]; kernel_rfl
theorem pc17 : ∀ w : World, PC17 w := byRow2 (P := PC17) "set-order" (byRow2 (P := fun w => PC17 (w.withFollow "set-order" false)) "special-get-raises" pc17_0 pc17_1) (byRow2 (P := fun w => PC17 (w.withFollow "set-order" true)) "special-get-raises" pc17_2 pc17_3)
noncomputable def PC20 (w : World) : Prop := (fun os => segRunT treeTable pwH w 11 annE 1 30 (sP20 w os) (piecesOf sts20 envE cE ⟨46, 0, 46, 6⟩ [topFrame p0])) = fun os => some (.next, sP21 w os, cE, ⟨47, 0, 48, 30⟩)
theorem pc20 (w : World) : PC20 w := by unfold PC20; rw [PySem.W.Fast.te10110043849684766642, PySem.W.Fast.te14364793385576792824]; kernel_rfl
noncomputable def PC22 (w : World) : Prop := (fun os => segRunT treeTable pwH w 11 annE 1 252 (sP22 w os) (piecesOf sts22 envE cE ⟨49, 0, 49, 6⟩ [topFrame p0])) = fun os => some (.next, sP32 w os, cE, ⟨116, 0, 168, 76⟩)
theorem pc22 (w : World) : PC22 w := by unfold PC22; rw [PySem.W.Fast.te10110043849684766642, PySem.W.Fast.te14364793385576792824]; kernel_rfl
end
end MineH
set_option maxRecDepth 100000
open PySem PySem.W PySem.Calls PyProof.Rows
namespace MineH
noncomputable section
noncomputable def PC11 (w : World) : Prop := (fun os => segRunT treeTable pwH w 11 annE 1 999 (sP11 w os) (piecesOf sts11 envE cE ⟨27, 0, 27, 8⟩ [topFrame p0])) = fun os => some (.next, sP12 w os, cE, ⟨28, 0, 28, 6⟩)
theorem pc11_0 (w : World) : PC11 ((w.withFollow "special-get-raises" false).withFollow "set-order" false) := by unfold PC11; rw [PySem.W.Fast.te10110043849684766642, PySem.W.Fast.te14364793385576792824]; kernel_rfl
theorem pc11_1 (w : World) : PC11 ((w.withFollow "special-get-raises" true).withFollow "set-order" false) := by unfold PC11; rw [PySem.W.Fast.te10110043849684766642, PySem.W.Fast.te14364793385576792824]; kernel_rfl
theorem pc11_2 (w : World) : PC11 ((w.withFollow "special-get-raises" false).withFollow "set-order" true) := by unfold PC11; rw [PySem.W.Fast.te10110043849684766642, PySem.W.Fast.te14364793385576792824]; kernel_rfl
theorem pc11_3 (w : World) : PC11 ((w.withFollow "special-get-raises" true).withFollow "set-order" true) := by unfold PC11; rw [PySem.W.Fast.te10110043849684766642, PySem.W.Fast.te14364793385576792824]; kernel_rfl
theorem pc11 : ∀ w : World, PC11 w := byRow2 (P := PC11) "set-order" (byRow2 (P := fun w => PC11 (w.withFollow "set-order" false)) "special-get-raises" pc11_0 pc11_1) (byRow2 (P := fun w => PC11 (w.withFollow "set-order" true)) "special-get-raises" pc11_2 pc11_3)
noncomputable def PC19 (w : World) : Prop := (fun os => segRunT treeTable pwH w 11 annE 1 775 (sP19 w os) (piecesOf sts19 envE cE ⟨44, 0, 45, 30⟩ [topFrame p0])) = fun os => some (.next, sP20 w os, cE, ⟨46, 0, 46, 6⟩)
theorem pc19_0 (w : World) : PC19 ((w.withFollow "special-get-raises" false).withFollow "set-order" false) := by unfold PC19; rw [PySem.W.Fast.te10110043849684766642, PySem.W.Fast.te14364793385576792824]; kernel_rfl
theorem pc19_1 (w : World) : PC19 ((w.withFollow "special-get-raises" true).withFollow "set-order" false) := by unfold PC19; rw [PySem.W.Fast.te10110043849684766642, PySem.W.Fast.te14364793385576792824]; kernel_rfl
theorem pc19_2 (w : World) : PC19 ((w.withFollow "special-get-raises" false).withFollow "set-order" true) := by unfold PC19; rw [PySem.W.Fast.te10110043849684766642, PySem.W.Fast.te14364793385576792824]; kernel_rfl
theorem pc19_3 (w : World) : PC19 ((w.withFollow "special-get-raises" true).withFollow "set-order" true) := by unfold PC19; rw [PySem.W.Fast.te10110043849684766642, PySem.W.Fast.te14364793385576792824]; kernel_rfl
theorem pc19 : ∀ w : World, PC19 w := byRow2 (P := PC19) "set-order" (byRow2 (P := fun w => PC19 (w.withFollow "set-order" false)) "special-get-raises" pc19_0 pc19_1) (byRow2 (P := fun w => PC19 (w.withFollow "set-order" true)) "special-get-raises" pc19_2 pc19_3)
end
end MineH
set_option maxRecDepth 100000
open PySem PySem.W PySem.Calls PyProof.Rows
namespace MineH
noncomputable section
noncomputable def s0 (w : World) (os : OsState) : Shared := ⟨boot_heap w.params, Array.mk [], boot_drawn, boot_toks, os⟩
theorem preT (w : World) : (fun os => topGo treeTable pwH w 11 annE 12 (s0 w os) (topStub pwH)) = fun os => some (sA w os, ⟨denote treeTable cE, cE, p0, [topFrame p0]⟩) := by
  kernel_rfl
theorem blockT (w : World) : (fun os => segRun treeTable pwH w 11 annE 1 1 (sA w os) (blockOf bodyL envE cE p0 [topFrame p0])) = fun os => some (.next, (sB w os).abs, cE, p0) := by
  kernel_rfl
theorem finT (w : World) : (fun os => topRun treeTable pwH w 11 annE 2 (sP32 w os).abs ⟨doneF .next, cE, ⟨116, 0, 168, 76⟩, [topFrame p0]⟩) = fun os => some (sF w os) := by
  kernel_rfl
end
end MineH
set_option maxRecDepth 100000
open PySem PySem.W PySem.Calls PyProof.Rows
namespace MineH
noncomputable section
noncomputable def wOne (w : World) : World := ((w.withFollow "special-get-raises" false).withFollow "set-order" false)

noncomputable def ob1000 (_ : Params) : Obj := ⟨(.type "list"), none, .seq #[(.int 917505 443)] 0, #[]⟩
noncomputable def ob1001 (_ : Params) : Obj := ⟨(.type "range"), none, .fields #[(.int 917536 444), (.int 917632 445), (.int 1 446)], #[]⟩
noncomputable def ob1002 (_ : Params) : Obj := ⟨(.type "list"), none, .seq #[(.int 917536 449), (.int 917537 450)] 4, #[]⟩
noncomputable def ob1003 (_ : Params) : Obj := ⟨(.type "range_iterator"), none, .fields #[(.int 917538 0), (.int 94 0), (.int 1 0)], #[]⟩
noncomputable def s21c0T (P : Params) : BT := (.node (boot_o_0 P) (.node (boot_o_1 P) (.node (ob141 P) (.node (boot_o_7 P) (.node (ob6 P) (.node (ob22 P) (.node (ob54 P) (.node (ob124 P) .nil .nil) .nil) (.node (ob89 P) .nil .nil)) (.node (ob38 P) (.node (ob71 P) (.node (ob140 P) .nil .nil) .nil) (.node (ob105 P) .nil .nil))) (.node (ob14 P) (.node (ob30 P) (.node (ob63 P) (.node (ob132 P) .nil .nil) .nil) (.node (ob97 P) .nil .nil)) (.node (ob46 P) (.node (ob81 P) (.node (ob1000 P) .nil .nil) .nil) (.node (ob115 P) .nil .nil)))) (.node (ob0 P) (.node (ob10 P) (.node (ob26 P) (.node (ob58 P) (.node (ob128 P) .nil .nil) .nil) (.node (ob93 P) .nil .nil)) (.node (ob42 P) (.node (ob77 P) (.node (ob146 P) .nil .nil) .nil) (.node (ob111 P) .nil .nil))) (.node (ob18 P) (.node (ob34 P) (.node (ob67 P) (.node (ob136 P) .nil .nil) .nil) (.node (ob101 P) .nil .nil)) (.node (ob50 P) (.node (ob85 P) .nil .nil) (.node (ob119 P) .nil .nil))))) (.node (boot_o_5 P) (.node (boot_o_9 P) (.node (ob8 P) (.node (ob24 P) (.node (ob56 P) (.node (ob126 P) .nil .nil) .nil) (.node (ob91 P) .nil .nil)) (.node (ob40 P) (.node (ob73 P) (.node (ob144 P) .nil .nil) .nil) (.node (ob107 P) .nil .nil))) (.node (ob16 P) (.node (ob32 P) (.node (ob65 P) (.node (ob134 P) .nil .nil) .nil) (.node (ob99 P) .nil .nil)) (.node (ob48 P) (.node (ob83 P) (.node (ob1002 P) .nil .nil) .nil) (.node (ob117 P) .nil .nil)))) (.node (ob2 P) (.node (ob12 P) (.node (ob28 P) (.node (ob60 P) (.node (ob130 P) .nil .nil) .nil) (.node (ob95 P) .nil .nil)) (.node (ob44 P) (.node (ob79 P) (.node (ob148 P) .nil .nil) .nil) (.node (ob113 P) .nil .nil))) (.node (ob20 P) (.node (ob36 P) (.node (ob69 P) (.node (ob138 P) .nil .nil) .nil) (.node (ob103 P) .nil .nil)) (.node (ob52 P) (.node (ob87 P) .nil .nil) (.node (ob121 P) .nil .nil)))))) (.node (boot_o_2 P) (.node (boot_o_4 P) (.node (boot_o_8 P) (.node (ob7 P) (.node (ob23 P) (.node (ob55 P) (.node (ob125 P) .nil .nil) .nil) (.node (ob90 P) .nil .nil)) (.node (ob39 P) (.node (ob72 P) (.node (ob143 P) .nil .nil) .nil) (.node (ob106 P) .nil .nil))) (.node (ob15 P) (.node (ob31 P) (.node (ob64 P) (.node (ob133 P) .nil .nil) .nil) (.node (ob98 P) .nil .nil)) (.node (ob47 P) (.node (ob82 P) (.node (ob1001 P) .nil .nil) .nil) (.node (ob116 P) .nil .nil)))) (.node (ob142 P) (.node (ob11 P) (.node (ob27 P) (.node (ob59 P) (.node (ob129 P) .nil .nil) .nil) (.node (ob94 P) .nil .nil)) (.node (ob43 P) (.node (ob78 P) (.node (ob147 P) .nil .nil) .nil) (.node (ob112 P) .nil .nil))) (.node (ob19 P) (.node (ob35 P) (.node (ob68 P) (.node (ob137 P) .nil .nil) .nil) (.node (ob102 P) .nil .nil)) (.node (ob51 P) (.node (ob86 P) .nil .nil) (.node (ob120 P) .nil .nil))))) (.node (boot_o_6 P) (.node (boot_o_10 P) (.node (ob9 P) (.node (ob25 P) (.node (ob57 P) (.node (ob127 P) .nil .nil) .nil) (.node (ob92 P) .nil .nil)) (.node (ob41 P) (.node (ob76 P) (.node (ob145 P) .nil .nil) .nil) (.node (ob108 P) .nil .nil))) (.node (ob17 P) (.node (ob33 P) (.node (ob66 P) (.node (ob135 P) .nil .nil) .nil) (.node (ob100 P) .nil .nil)) (.node (ob49 P) (.node (ob84 P) (.node (ob1003 P) .nil .nil) .nil) (.node (ob118 P) .nil .nil)))) (.node (ob3 P) (.node (ob13 P) (.node (ob29 P) (.node (ob61 P) (.node (ob131 P) .nil .nil) .nil) (.node (ob96 P) .nil .nil)) (.node (ob45 P) (.node (ob80 P) (.node (ob149 P) .nil .nil) .nil) (.node (ob114 P) .nil .nil))) (.node (ob21 P) (.node (ob37 P) (.node (ob70 P) (.node (ob139 P) .nil .nil) .nil) (.node (ob104 P) .nil .nil)) (.node (ob53 P) (.node (ob88 P) .nil .nil) (.node (ob122 P) .nil .nil)))))))
noncomputable def s21c0 (w : World) (os : OsState) : SharedT := ⟨s21c0T w.params, 155, hlife, Array.mk [], ⟨0, 0, 0, 0⟩, 451, os⟩
noncomputable def ob1004 (_ : Params) : Obj := ⟨(.type "list"), none, .seq #[(.int 917536 449), (.int 917537 450), (.int 917538 451), (.int 917539 452), (.int 917540 453), (.int 917541 454), (.int 917542 455), (.int 917543 456), (.int 917544 457), (.int 917545 458), (.int 917546 459), (.int 917547 460), (.int 917548 461), (.int 917549 462), (.int 917550 463), (.int 917551 464), (.int 917552 465), (.int 917553 466), (.int 917554 467), (.int 917555 468), (.int 917556 469), (.int 917557 470), (.int 917558 471), (.int 917559 472), (.int 917560 473)] 27, #[]⟩
noncomputable def ob1005 (_ : Params) : Obj := ⟨(.type "range_iterator"), none, .fields #[(.int 917561 0), (.int 71 0), (.int 1 0)], #[]⟩
noncomputable def s21c1T (P : Params) : BT := (.node (boot_o_0 P) (.node (boot_o_1 P) (.node (ob141 P) (.node (boot_o_7 P) (.node (ob6 P) (.node (ob22 P) (.node (ob54 P) (.node (ob124 P) .nil .nil) .nil) (.node (ob89 P) .nil .nil)) (.node (ob38 P) (.node (ob71 P) (.node (ob140 P) .nil .nil) .nil) (.node (ob105 P) .nil .nil))) (.node (ob14 P) (.node (ob30 P) (.node (ob63 P) (.node (ob132 P) .nil .nil) .nil) (.node (ob97 P) .nil .nil)) (.node (ob46 P) (.node (ob81 P) (.node (ob1000 P) .nil .nil) .nil) (.node (ob115 P) .nil .nil)))) (.node (ob0 P) (.node (ob10 P) (.node (ob26 P) (.node (ob58 P) (.node (ob128 P) .nil .nil) .nil) (.node (ob93 P) .nil .nil)) (.node (ob42 P) (.node (ob77 P) (.node (ob146 P) .nil .nil) .nil) (.node (ob111 P) .nil .nil))) (.node (ob18 P) (.node (ob34 P) (.node (ob67 P) (.node (ob136 P) .nil .nil) .nil) (.node (ob101 P) .nil .nil)) (.node (ob50 P) (.node (ob85 P) .nil .nil) (.node (ob119 P) .nil .nil))))) (.node (boot_o_5 P) (.node (boot_o_9 P) (.node (ob8 P) (.node (ob24 P) (.node (ob56 P) (.node (ob126 P) .nil .nil) .nil) (.node (ob91 P) .nil .nil)) (.node (ob40 P) (.node (ob73 P) (.node (ob144 P) .nil .nil) .nil) (.node (ob107 P) .nil .nil))) (.node (ob16 P) (.node (ob32 P) (.node (ob65 P) (.node (ob134 P) .nil .nil) .nil) (.node (ob99 P) .nil .nil)) (.node (ob48 P) (.node (ob83 P) (.node (ob1004 P) .nil .nil) .nil) (.node (ob117 P) .nil .nil)))) (.node (ob2 P) (.node (ob12 P) (.node (ob28 P) (.node (ob60 P) (.node (ob130 P) .nil .nil) .nil) (.node (ob95 P) .nil .nil)) (.node (ob44 P) (.node (ob79 P) (.node (ob148 P) .nil .nil) .nil) (.node (ob113 P) .nil .nil))) (.node (ob20 P) (.node (ob36 P) (.node (ob69 P) (.node (ob138 P) .nil .nil) .nil) (.node (ob103 P) .nil .nil)) (.node (ob52 P) (.node (ob87 P) .nil .nil) (.node (ob121 P) .nil .nil)))))) (.node (boot_o_2 P) (.node (boot_o_4 P) (.node (boot_o_8 P) (.node (ob7 P) (.node (ob23 P) (.node (ob55 P) (.node (ob125 P) .nil .nil) .nil) (.node (ob90 P) .nil .nil)) (.node (ob39 P) (.node (ob72 P) (.node (ob143 P) .nil .nil) .nil) (.node (ob106 P) .nil .nil))) (.node (ob15 P) (.node (ob31 P) (.node (ob64 P) (.node (ob133 P) .nil .nil) .nil) (.node (ob98 P) .nil .nil)) (.node (ob47 P) (.node (ob82 P) (.node (ob1001 P) .nil .nil) .nil) (.node (ob116 P) .nil .nil)))) (.node (ob142 P) (.node (ob11 P) (.node (ob27 P) (.node (ob59 P) (.node (ob129 P) .nil .nil) .nil) (.node (ob94 P) .nil .nil)) (.node (ob43 P) (.node (ob78 P) (.node (ob147 P) .nil .nil) .nil) (.node (ob112 P) .nil .nil))) (.node (ob19 P) (.node (ob35 P) (.node (ob68 P) (.node (ob137 P) .nil .nil) .nil) (.node (ob102 P) .nil .nil)) (.node (ob51 P) (.node (ob86 P) .nil .nil) (.node (ob120 P) .nil .nil))))) (.node (boot_o_6 P) (.node (boot_o_10 P) (.node (ob9 P) (.node (ob25 P) (.node (ob57 P) (.node (ob127 P) .nil .nil) .nil) (.node (ob92 P) .nil .nil)) (.node (ob41 P) (.node (ob76 P) (.node (ob145 P) .nil .nil) .nil) (.node (ob108 P) .nil .nil))) (.node (ob17 P) (.node (ob33 P) (.node (ob66 P) (.node (ob135 P) .nil .nil) .nil) (.node (ob100 P) .nil .nil)) (.node (ob49 P) (.node (ob84 P) (.node (ob1005 P) .nil .nil) .nil) (.node (ob118 P) .nil .nil)))) (.node (ob3 P) (.node (ob13 P) (.node (ob29 P) (.node (ob61 P) (.node (ob131 P) .nil .nil) .nil) (.node (ob96 P) .nil .nil)) (.node (ob45 P) (.node (ob80 P) (.node (ob149 P) .nil .nil) .nil) (.node (ob114 P) .nil .nil))) (.node (ob21 P) (.node (ob37 P) (.node (ob70 P) (.node (ob139 P) .nil .nil) .nil) (.node (ob104 P) .nil .nil)) (.node (ob53 P) (.node (ob88 P) .nil .nil) (.node (ob122 P) .nil .nil)))))))
noncomputable def s21c1 (w : World) (os : OsState) : SharedT := ⟨s21c1T w.params, 155, hlife, Array.mk [], ⟨0, 0, 0, 0⟩, 474, os⟩
noncomputable def ob1006 (_ : Params) : Obj := ⟨(.type "list"), none, .seq #[(.int 917536 449), (.int 917537 450), (.int 917538 451), (.int 917539 452), (.int 917540 453), (.int 917541 454), (.int 917542 455), (.int 917543 456), (.int 917544 457), (.int 917545 458), (.int 917546 459), (.int 917547 460), (.int 917548 461), (.int 917549 462), (.int 917550 463), (.int 917551 464), (.int 917552 465), (.int 917553 466), (.int 917554 467), (.int 917555 468), (.int 917556 469), (.int 917557 470), (.int 917558 471), (.int 917559 472), (.int 917560 473), (.int 917561 474), (.int 917562 475), (.int 917563 476), (.int 917564 477), (.int 917565 478), (.int 917566 479), (.int 917567 480), (.int 917568 481), (.int 917569 482), (.int 917570 483), (.int 917571 484), (.int 917572 485), (.int 917573 486), (.int 917574 487), (.int 917575 488), (.int 917576 489), (.int 917577 490), (.int 917578 491), (.int 917579 492), (.int 917580 493), (.int 917581 494), (.int 917582 495), (.int 917583 496)] 50, #[]⟩
noncomputable def ob1007 (_ : Params) : Obj := ⟨(.type "range_iterator"), none, .fields #[(.int 917584 0), (.int 48 0), (.int 1 0)], #[]⟩
noncomputable def s21c2T (P : Params) : BT := (.node (boot_o_0 P) (.node (boot_o_1 P) (.node (ob141 P) (.node (boot_o_7 P) (.node (ob6 P) (.node (ob22 P) (.node (ob54 P) (.node (ob124 P) .nil .nil) .nil) (.node (ob89 P) .nil .nil)) (.node (ob38 P) (.node (ob71 P) (.node (ob140 P) .nil .nil) .nil) (.node (ob105 P) .nil .nil))) (.node (ob14 P) (.node (ob30 P) (.node (ob63 P) (.node (ob132 P) .nil .nil) .nil) (.node (ob97 P) .nil .nil)) (.node (ob46 P) (.node (ob81 P) (.node (ob1000 P) .nil .nil) .nil) (.node (ob115 P) .nil .nil)))) (.node (ob0 P) (.node (ob10 P) (.node (ob26 P) (.node (ob58 P) (.node (ob128 P) .nil .nil) .nil) (.node (ob93 P) .nil .nil)) (.node (ob42 P) (.node (ob77 P) (.node (ob146 P) .nil .nil) .nil) (.node (ob111 P) .nil .nil))) (.node (ob18 P) (.node (ob34 P) (.node (ob67 P) (.node (ob136 P) .nil .nil) .nil) (.node (ob101 P) .nil .nil)) (.node (ob50 P) (.node (ob85 P) .nil .nil) (.node (ob119 P) .nil .nil))))) (.node (boot_o_5 P) (.node (boot_o_9 P) (.node (ob8 P) (.node (ob24 P) (.node (ob56 P) (.node (ob126 P) .nil .nil) .nil) (.node (ob91 P) .nil .nil)) (.node (ob40 P) (.node (ob73 P) (.node (ob144 P) .nil .nil) .nil) (.node (ob107 P) .nil .nil))) (.node (ob16 P) (.node (ob32 P) (.node (ob65 P) (.node (ob134 P) .nil .nil) .nil) (.node (ob99 P) .nil .nil)) (.node (ob48 P) (.node (ob83 P) (.node (ob1006 P) .nil .nil) .nil) (.node (ob117 P) .nil .nil)))) (.node (ob2 P) (.node (ob12 P) (.node (ob28 P) (.node (ob60 P) (.node (ob130 P) .nil .nil) .nil) (.node (ob95 P) .nil .nil)) (.node (ob44 P) (.node (ob79 P) (.node (ob148 P) .nil .nil) .nil) (.node (ob113 P) .nil .nil))) (.node (ob20 P) (.node (ob36 P) (.node (ob69 P) (.node (ob138 P) .nil .nil) .nil) (.node (ob103 P) .nil .nil)) (.node (ob52 P) (.node (ob87 P) .nil .nil) (.node (ob121 P) .nil .nil)))))) (.node (boot_o_2 P) (.node (boot_o_4 P) (.node (boot_o_8 P) (.node (ob7 P) (.node (ob23 P) (.node (ob55 P) (.node (ob125 P) .nil .nil) .nil) (.node (ob90 P) .nil .nil)) (.node (ob39 P) (.node (ob72 P) (.node (ob143 P) .nil .nil) .nil) (.node (ob106 P) .nil .nil))) (.node (ob15 P) (.node (ob31 P) (.node (ob64 P) (.node (ob133 P) .nil .nil) .nil) (.node (ob98 P) .nil .nil)) (.node (ob47 P) (.node (ob82 P) (.node (ob1001 P) .nil .nil) .nil) (.node (ob116 P) .nil .nil)))) (.node (ob142 P) (.node (ob11 P) (.node (ob27 P) (.node (ob59 P) (.node (ob129 P) .nil .nil) .nil) (.node (ob94 P) .nil .nil)) (.node (ob43 P) (.node (ob78 P) (.node (ob147 P) .nil .nil) .nil) (.node (ob112 P) .nil .nil))) (.node (ob19 P) (.node (ob35 P) (.node (ob68 P) (.node (ob137 P) .nil .nil) .nil) (.node (ob102 P) .nil .nil)) (.node (ob51 P) (.node (ob86 P) .nil .nil) (.node (ob120 P) .nil .nil))))) (.node (boot_o_6 P) (.node (boot_o_10 P) (.node (ob9 P) (.node (ob25 P) (.node (ob57 P) (.node (ob127 P) .nil .nil) .nil) (.node (ob92 P) .nil .nil)) (.node (ob41 P) (.node (ob76 P) (.node (ob145 P) .nil .nil) .nil) (.node (ob108 P) .nil .nil))) (.node (ob17 P) (.node (ob33 P) (.node (ob66 P) (.node (ob135 P) .nil .nil) .nil) (.node (ob100 P) .nil .nil)) (.node (ob49 P) (.node (ob84 P) (.node (ob1007 P) .nil .nil) .nil) (.node (ob118 P) .nil .nil)))) (.node (ob3 P) (.node (ob13 P) (.node (ob29 P) (.node (ob61 P) (.node (ob131 P) .nil .nil) .nil) (.node (ob96 P) .nil .nil)) (.node (ob45 P) (.node (ob80 P) (.node (ob149 P) .nil .nil) .nil) (.node (ob114 P) .nil .nil))) (.node (ob21 P) (.node (ob37 P) (.node (ob70 P) (.node (ob139 P) .nil .nil) .nil) (.node (ob104 P) .nil .nil)) (.node (ob53 P) (.node (ob88 P) .nil .nil) (.node (ob122 P) .nil .nil)))))))
noncomputable def s21c2 (w : World) (os : OsState) : SharedT := ⟨s21c2T w.params, 155, hlife, Array.mk [], ⟨0, 0, 0, 0⟩, 497, os⟩
noncomputable def ob1008 (_ : Params) : Obj := ⟨(.type "list"), none, .seq #[(.int 917536 449), (.int 917537 450), (.int 917538 451), (.int 917539 452), (.int 917540 453), (.int 917541 454), (.int 917542 455), (.int 917543 456), (.int 917544 457), (.int 917545 458), (.int 917546 459), (.int 917547 460), (.int 917548 461), (.int 917549 462), (.int 917550 463), (.int 917551 464), (.int 917552 465), (.int 917553 466), (.int 917554 467), (.int 917555 468), (.int 917556 469), (.int 917557 470), (.int 917558 471), (.int 917559 472), (.int 917560 473), (.int 917561 474), (.int 917562 475), (.int 917563 476), (.int 917564 477), (.int 917565 478), (.int 917566 479), (.int 917567 480), (.int 917568 481), (.int 917569 482), (.int 917570 483), (.int 917571 484), (.int 917572 485), (.int 917573 486), (.int 917574 487), (.int 917575 488), (.int 917576 489), (.int 917577 490), (.int 917578 491), (.int 917579 492), (.int 917580 493), (.int 917581 494), (.int 917582 495), (.int 917583 496), (.int 917584 497), (.int 917585 498), (.int 917586 499), (.int 917587 500), (.int 917588 501), (.int 917589 502), (.int 917590 503), (.int 917591 504), (.int 917592 505), (.int 917593 506), (.int 917594 507), (.int 917595 508), (.int 917596 509), (.int 917597 510), (.int 917598 511), (.int 917599 512), (.int 917600 513), (.int 917601 514), (.int 917602 515), (.int 917603 516), (.int 917604 517), (.int 917605 518), (.int 917606 519)] 73, #[]⟩
noncomputable def ob1009 (_ : Params) : Obj := ⟨(.type "range_iterator"), none, .fields #[(.int 917607 0), (.int 25 0), (.int 1 0)], #[]⟩
noncomputable def s21c3T (P : Params) : BT := (.node (boot_o_0 P) (.node (boot_o_1 P) (.node (ob141 P) (.node (boot_o_7 P) (.node (ob6 P) (.node (ob22 P) (.node (ob54 P) (.node (ob124 P) .nil .nil) .nil) (.node (ob89 P) .nil .nil)) (.node (ob38 P) (.node (ob71 P) (.node (ob140 P) .nil .nil) .nil) (.node (ob105 P) .nil .nil))) (.node (ob14 P) (.node (ob30 P) (.node (ob63 P) (.node (ob132 P) .nil .nil) .nil) (.node (ob97 P) .nil .nil)) (.node (ob46 P) (.node (ob81 P) (.node (ob1000 P) .nil .nil) .nil) (.node (ob115 P) .nil .nil)))) (.node (ob0 P) (.node (ob10 P) (.node (ob26 P) (.node (ob58 P) (.node (ob128 P) .nil .nil) .nil) (.node (ob93 P) .nil .nil)) (.node (ob42 P) (.node (ob77 P) (.node (ob146 P) .nil .nil) .nil) (.node (ob111 P) .nil .nil))) (.node (ob18 P) (.node (ob34 P) (.node (ob67 P) (.node (ob136 P) .nil .nil) .nil) (.node (ob101 P) .nil .nil)) (.node (ob50 P) (.node (ob85 P) .nil .nil) (.node (ob119 P) .nil .nil))))) (.node (boot_o_5 P) (.node (boot_o_9 P) (.node (ob8 P) (.node (ob24 P) (.node (ob56 P) (.node (ob126 P) .nil .nil) .nil) (.node (ob91 P) .nil .nil)) (.node (ob40 P) (.node (ob73 P) (.node (ob144 P) .nil .nil) .nil) (.node (ob107 P) .nil .nil))) (.node (ob16 P) (.node (ob32 P) (.node (ob65 P) (.node (ob134 P) .nil .nil) .nil) (.node (ob99 P) .nil .nil)) (.node (ob48 P) (.node (ob83 P) (.node (ob1008 P) .nil .nil) .nil) (.node (ob117 P) .nil .nil)))) (.node (ob2 P) (.node (ob12 P) (.node (ob28 P) (.node (ob60 P) (.node (ob130 P) .nil .nil) .nil) (.node (ob95 P) .nil .nil)) (.node (ob44 P) (.node (ob79 P) (.node (ob148 P) .nil .nil) .nil) (.node (ob113 P) .nil .nil))) (.node (ob20 P) (.node (ob36 P) (.node (ob69 P) (.node (ob138 P) .nil .nil) .nil) (.node (ob103 P) .nil .nil)) (.node (ob52 P) (.node (ob87 P) .nil .nil) (.node (ob121 P) .nil .nil)))))) (.node (boot_o_2 P) (.node (boot_o_4 P) (.node (boot_o_8 P) (.node (ob7 P) (.node (ob23 P) (.node (ob55 P) (.node (ob125 P) .nil .nil) .nil) (.node (ob90 P) .nil .nil)) (.node (ob39 P) (.node (ob72 P) (.node (ob143 P) .nil .nil) .nil) (.node (ob106 P) .nil .nil))) (.node (ob15 P) (.node (ob31 P) (.node (ob64 P) (.node (ob133 P) .nil .nil) .nil) (.node (ob98 P) .nil .nil)) (.node (ob47 P) (.node (ob82 P) (.node (ob1001 P) .nil .nil) .nil) (.node (ob116 P) .nil .nil)))) (.node (ob142 P) (.node (ob11 P) (.node (ob27 P) (.node (ob59 P) (.node (ob129 P) .nil .nil) .nil) (.node (ob94 P) .nil .nil)) (.node (ob43 P) (.node (ob78 P) (.node (ob147 P) .nil .nil) .nil) (.node (ob112 P) .nil .nil))) (.node (ob19 P) (.node (ob35 P) (.node (ob68 P) (.node (ob137 P) .nil .nil) .nil) (.node (ob102 P) .nil .nil)) (.node (ob51 P) (.node (ob86 P) .nil .nil) (.node (ob120 P) .nil .nil))))) (.node (boot_o_6 P) (.node (boot_o_10 P) (.node (ob9 P) (.node (ob25 P) (.node (ob57 P) (.node (ob127 P) .nil .nil) .nil) (.node (ob92 P) .nil .nil)) (.node (ob41 P) (.node (ob76 P) (.node (ob145 P) .nil .nil) .nil) (.node (ob108 P) .nil .nil))) (.node (ob17 P) (.node (ob33 P) (.node (ob66 P) (.node (ob135 P) .nil .nil) .nil) (.node (ob100 P) .nil .nil)) (.node (ob49 P) (.node (ob84 P) (.node (ob1009 P) .nil .nil) .nil) (.node (ob118 P) .nil .nil)))) (.node (ob3 P) (.node (ob13 P) (.node (ob29 P) (.node (ob61 P) (.node (ob131 P) .nil .nil) .nil) (.node (ob96 P) .nil .nil)) (.node (ob45 P) (.node (ob80 P) (.node (ob149 P) .nil .nil) .nil) (.node (ob114 P) .nil .nil))) (.node (ob21 P) (.node (ob37 P) (.node (ob70 P) (.node (ob139 P) .nil .nil) .nil) (.node (ob104 P) .nil .nil)) (.node (ob53 P) (.node (ob88 P) .nil .nil) (.node (ob122 P) .nil .nil)))))))
noncomputable def s21c3 (w : World) (os : OsState) : SharedT := ⟨s21c3T w.params, 155, hlife, Array.mk [], ⟨0, 0, 0, 0⟩, 520, os⟩
noncomputable def ob1010 (_ : Params) : Obj := ⟨(.type "list"), none, .seq #[(.int 917536 449), (.int 917537 450), (.int 917538 451), (.int 917539 452), (.int 917540 453), (.int 917541 454), (.int 917542 455), (.int 917543 456), (.int 917544 457), (.int 917545 458), (.int 917546 459), (.int 917547 460), (.int 917548 461), (.int 917549 462), (.int 917550 463), (.int 917551 464), (.int 917552 465), (.int 917553 466), (.int 917554 467), (.int 917555 468), (.int 917556 469), (.int 917557 470), (.int 917558 471), (.int 917559 472), (.int 917560 473), (.int 917561 474), (.int 917562 475), (.int 917563 476), (.int 917564 477), (.int 917565 478), (.int 917566 479), (.int 917567 480), (.int 917568 481), (.int 917569 482), (.int 917570 483), (.int 917571 484), (.int 917572 485), (.int 917573 486), (.int 917574 487), (.int 917575 488), (.int 917576 489), (.int 917577 490), (.int 917578 491), (.int 917579 492), (.int 917580 493), (.int 917581 494), (.int 917582 495), (.int 917583 496), (.int 917584 497), (.int 917585 498), (.int 917586 499), (.int 917587 500), (.int 917588 501), (.int 917589 502), (.int 917590 503), (.int 917591 504), (.int 917592 505), (.int 917593 506), (.int 917594 507), (.int 917595 508), (.int 917596 509), (.int 917597 510), (.int 917598 511), (.int 917599 512), (.int 917600 513), (.int 917601 514), (.int 917602 515), (.int 917603 516), (.int 917604 517), (.int 917605 518), (.int 917606 519), (.int 917607 520), (.int 917608 521), (.int 917609 522), (.int 917610 523), (.int 917611 524), (.int 917612 525), (.int 917613 526), (.int 917614 527), (.int 917615 528), (.int 917616 529), (.int 917617 530), (.int 917618 531), (.int 917619 532), (.int 917620 533), (.int 917621 534), (.int 917622 535), (.int 917623 536), (.int 917624 537), (.int 917625 538), (.int 917626 539), (.int 917627 540), (.int 917628 541), (.int 917629 542)] 96, #[]⟩
noncomputable def ob1011 (_ : Params) : Obj := ⟨(.type "range_iterator"), none, .fields #[(.int 917630 0), (.int 2 0), (.int 1 0)], #[]⟩
noncomputable def s21c4T (P : Params) : BT := (.node (boot_o_0 P) (.node (boot_o_1 P) (.node (ob141 P) (.node (boot_o_7 P) (.node (ob6 P) (.node (ob22 P) (.node (ob54 P) (.node (ob124 P) .nil .nil) .nil) (.node (ob89 P) .nil .nil)) (.node (ob38 P) (.node (ob71 P) (.node (ob140 P) .nil .nil) .nil) (.node (ob105 P) .nil .nil))) (.node (ob14 P) (.node (ob30 P) (.node (ob63 P) (.node (ob132 P) .nil .nil) .nil) (.node (ob97 P) .nil .nil)) (.node (ob46 P) (.node (ob81 P) (.node (ob1000 P) .nil .nil) .nil) (.node (ob115 P) .nil .nil)))) (.node (ob0 P) (.node (ob10 P) (.node (ob26 P) (.node (ob58 P) (.node (ob128 P) .nil .nil) .nil) (.node (ob93 P) .nil .nil)) (.node (ob42 P) (.node (ob77 P) (.node (ob146 P) .nil .nil) .nil) (.node (ob111 P) .nil .nil))) (.node (ob18 P) (.node (ob34 P) (.node (ob67 P) (.node (ob136 P) .nil .nil) .nil) (.node (ob101 P) .nil .nil)) (.node (ob50 P) (.node (ob85 P) .nil .nil) (.node (ob119 P) .nil .nil))))) (.node (boot_o_5 P) (.node (boot_o_9 P) (.node (ob8 P) (.node (ob24 P) (.node (ob56 P) (.node (ob126 P) .nil .nil) .nil) (.node (ob91 P) .nil .nil)) (.node (ob40 P) (.node (ob73 P) (.node (ob144 P) .nil .nil) .nil) (.node (ob107 P) .nil .nil))) (.node (ob16 P) (.node (ob32 P) (.node (ob65 P) (.node (ob134 P) .nil .nil) .nil) (.node (ob99 P) .nil .nil)) (.node (ob48 P) (.node (ob83 P) (.node (ob1010 P) .nil .nil) .nil) (.node (ob117 P) .nil .nil)))) (.node (ob2 P) (.node (ob12 P) (.node (ob28 P) (.node (ob60 P) (.node (ob130 P) .nil .nil) .nil) (.node (ob95 P) .nil .nil)) (.node (ob44 P) (.node (ob79 P) (.node (ob148 P) .nil .nil) .nil) (.node (ob113 P) .nil .nil))) (.node (ob20 P) (.node (ob36 P) (.node (ob69 P) (.node (ob138 P) .nil .nil) .nil) (.node (ob103 P) .nil .nil)) (.node (ob52 P) (.node (ob87 P) .nil .nil) (.node (ob121 P) .nil .nil)))))) (.node (boot_o_2 P) (.node (boot_o_4 P) (.node (boot_o_8 P) (.node (ob7 P) (.node (ob23 P) (.node (ob55 P) (.node (ob125 P) .nil .nil) .nil) (.node (ob90 P) .nil .nil)) (.node (ob39 P) (.node (ob72 P) (.node (ob143 P) .nil .nil) .nil) (.node (ob106 P) .nil .nil))) (.node (ob15 P) (.node (ob31 P) (.node (ob64 P) (.node (ob133 P) .nil .nil) .nil) (.node (ob98 P) .nil .nil)) (.node (ob47 P) (.node (ob82 P) (.node (ob1001 P) .nil .nil) .nil) (.node (ob116 P) .nil .nil)))) (.node (ob142 P) (.node (ob11 P) (.node (ob27 P) (.node (ob59 P) (.node (ob129 P) .nil .nil) .nil) (.node (ob94 P) .nil .nil)) (.node (ob43 P) (.node (ob78 P) (.node (ob147 P) .nil .nil) .nil) (.node (ob112 P) .nil .nil))) (.node (ob19 P) (.node (ob35 P) (.node (ob68 P) (.node (ob137 P) .nil .nil) .nil) (.node (ob102 P) .nil .nil)) (.node (ob51 P) (.node (ob86 P) .nil .nil) (.node (ob120 P) .nil .nil))))) (.node (boot_o_6 P) (.node (boot_o_10 P) (.node (ob9 P) (.node (ob25 P) (.node (ob57 P) (.node (ob127 P) .nil .nil) .nil) (.node (ob92 P) .nil .nil)) (.node (ob41 P) (.node (ob76 P) (.node (ob145 P) .nil .nil) .nil) (.node (ob108 P) .nil .nil))) (.node (ob17 P) (.node (ob33 P) (.node (ob66 P) (.node (ob135 P) .nil .nil) .nil) (.node (ob100 P) .nil .nil)) (.node (ob49 P) (.node (ob84 P) (.node (ob1011 P) .nil .nil) .nil) (.node (ob118 P) .nil .nil)))) (.node (ob3 P) (.node (ob13 P) (.node (ob29 P) (.node (ob61 P) (.node (ob131 P) .nil .nil) .nil) (.node (ob96 P) .nil .nil)) (.node (ob45 P) (.node (ob80 P) (.node (ob149 P) .nil .nil) .nil) (.node (ob114 P) .nil .nil))) (.node (ob21 P) (.node (ob37 P) (.node (ob70 P) (.node (ob139 P) .nil .nil) .nil) (.node (ob104 P) .nil .nil)) (.node (ob53 P) (.node (ob88 P) .nil .nil) (.node (ob122 P) .nil .nil)))))))
noncomputable def s21c4 (w : World) (os : OsState) : SharedT := ⟨s21c4T w.params, 155, hlife, Array.mk [], ⟨0, 0, 0, 0⟩, 543, os⟩
noncomputable def ob1012 (_ : Params) : Obj := ⟨(.type "list"), none, .seq #[(.int 917536 449), (.int 917537 450), (.int 917538 451), (.int 917539 452), (.int 917540 453), (.int 917541 454), (.int 917542 455), (.int 917543 456), (.int 917544 457), (.int 917545 458), (.int 917546 459), (.int 917547 460), (.int 917548 461), (.int 917549 462), (.int 917550 463), (.int 917551 464), (.int 917552 465), (.int 917553 466), (.int 917554 467), (.int 917555 468), (.int 917556 469), (.int 917557 470), (.int 917558 471), (.int 917559 472), (.int 917560 473), (.int 917561 474), (.int 917562 475), (.int 917563 476), (.int 917564 477), (.int 917565 478), (.int 917566 479), (.int 917567 480), (.int 917568 481), (.int 917569 482), (.int 917570 483), (.int 917571 484), (.int 917572 485), (.int 917573 486), (.int 917574 487), (.int 917575 488), (.int 917576 489), (.int 917577 490), (.int 917578 491), (.int 917579 492), (.int 917580 493), (.int 917581 494), (.int 917582 495), (.int 917583 496), (.int 917584 497), (.int 917585 498), (.int 917586 499), (.int 917587 500), (.int 917588 501), (.int 917589 502), (.int 917590 503), (.int 917591 504), (.int 917592 505), (.int 917593 506), (.int 917594 507), (.int 917595 508), (.int 917596 509), (.int 917597 510), (.int 917598 511), (.int 917599 512), (.int 917600 513), (.int 917601 514), (.int 917602 515), (.int 917603 516), (.int 917604 517), (.int 917605 518), (.int 917606 519), (.int 917607 520), (.int 917608 521), (.int 917609 522), (.int 917610 523), (.int 917611 524), (.int 917612 525), (.int 917613 526), (.int 917614 527), (.int 917615 528), (.int 917616 529), (.int 917617 530), (.int 917618 531), (.int 917619 532), (.int 917620 533), (.int 917621 534), (.int 917622 535), (.int 917623 536), (.int 917624 537), (.int 917625 538), (.int 917626 539), (.int 917627 540), (.int 917628 541), (.int 917629 542), (.int 917630 543), (.int 917631 544)] 98, #[]⟩
noncomputable def ob1013 (_ : Params) : Obj := ⟨(.type "range_iterator"), none, .fields #[(.int 917632 0), (.int 0 0), (.int 1 0)], #[]⟩
noncomputable def ob1014 (_ : Params) : Obj := ⟨(.type "tuple"), none, .seq #[] 0, #[]⟩
noncomputable def ob1015 (_ : Params) : Obj := ⟨(.type "StopIteration"), none, .fields #[(.ref 155), .none, .none, .none, (.bool false), .none], #[]⟩
noncomputable def ob1016 (_ : Params) : Obj := ⟨(.type "list"), none, .seq #[(.int 917505 443), (.int 917536 449), (.int 917537 450), (.int 917538 451), (.int 917539 452), (.int 917540 453), (.int 917541 454), (.int 917542 455), (.int 917543 456), (.int 917544 457), (.int 917545 458), (.int 917546 459), (.int 917547 460), (.int 917548 461), (.int 917549 462), (.int 917550 463), (.int 917551 464), (.int 917552 465), (.int 917553 466), (.int 917554 467), (.int 917555 468), (.int 917556 469), (.int 917557 470), (.int 917558 471), (.int 917559 472), (.int 917560 473), (.int 917561 474), (.int 917562 475), (.int 917563 476), (.int 917564 477), (.int 917565 478), (.int 917566 479), (.int 917567 480), (.int 917568 481), (.int 917569 482), (.int 917570 483), (.int 917571 484), (.int 917572 485), (.int 917573 486), (.int 917574 487), (.int 917575 488), (.int 917576 489), (.int 917577 490), (.int 917578 491), (.int 917579 492), (.int 917580 493), (.int 917581 494), (.int 917582 495), (.int 917583 496), (.int 917584 497), (.int 917585 498), (.int 917586 499), (.int 917587 500), (.int 917588 501), (.int 917589 502), (.int 917590 503), (.int 917591 504), (.int 917592 505), (.int 917593 506), (.int 917594 507), (.int 917595 508), (.int 917596 509), (.int 917597 510), (.int 917598 511), (.int 917599 512), (.int 917600 513), (.int 917601 514), (.int 917602 515), (.int 917603 516), (.int 917604 517), (.int 917605 518), (.int 917606 519), (.int 917607 520), (.int 917608 521), (.int 917609 522), (.int 917610 523), (.int 917611 524), (.int 917612 525), (.int 917613 526), (.int 917614 527), (.int 917615 528), (.int 917616 529), (.int 917617 530), (.int 917618 531), (.int 917619 532), (.int 917620 533), (.int 917621 534), (.int 917622 535), (.int 917623 536), (.int 917624 537), (.int 917625 538), (.int 917626 539), (.int 917627 540), (.int 917628 541), (.int 917629 542), (.int 917630 543), (.int 917631 544)] 0, #[]⟩
noncomputable def ob1017 (P : Params) : Obj := ⟨(.type "set"), none, .set #[] 0 { mask := 7, place := #[], dummies := #[], finger := 0, led := !(P.followText "set-order"), moves := 0, plain := true }, #[]⟩
noncomputable def s21c5T (P : Params) : BT := (.node (boot_o_0 P) (.node (boot_o_1 P) (.node (ob141 P) (.node (boot_o_7 P) (.node (ob6 P) (.node (ob22 P) (.node (ob54 P) (.node (ob124 P) .nil .nil) .nil) (.node (ob89 P) .nil .nil)) (.node (ob38 P) (.node (ob71 P) (.node (ob140 P) .nil .nil) .nil) (.node (ob105 P) .nil .nil))) (.node (ob14 P) (.node (ob30 P) (.node (ob63 P) (.node (ob132 P) .nil .nil) .nil) (.node (ob97 P) .nil .nil)) (.node (ob46 P) (.node (ob81 P) (.node (ob1000 P) .nil .nil) .nil) (.node (ob115 P) .nil .nil)))) (.node (ob0 P) (.node (ob10 P) (.node (ob26 P) (.node (ob58 P) (.node (ob128 P) .nil .nil) .nil) (.node (ob93 P) .nil .nil)) (.node (ob42 P) (.node (ob77 P) (.node (ob146 P) .nil .nil) .nil) (.node (ob111 P) .nil .nil))) (.node (ob18 P) (.node (ob34 P) (.node (ob67 P) (.node (ob136 P) .nil .nil) .nil) (.node (ob101 P) .nil .nil)) (.node (ob50 P) (.node (ob85 P) (.node (ob1014 P) .nil .nil) .nil) (.node (ob119 P) .nil .nil))))) (.node (boot_o_5 P) (.node (boot_o_9 P) (.node (ob8 P) (.node (ob24 P) (.node (ob56 P) (.node (ob126 P) .nil .nil) .nil) (.node (ob91 P) .nil .nil)) (.node (ob40 P) (.node (ob73 P) (.node (ob144 P) .nil .nil) .nil) (.node (ob107 P) .nil .nil))) (.node (ob16 P) (.node (ob32 P) (.node (ob65 P) (.node (ob134 P) .nil .nil) .nil) (.node (ob99 P) .nil .nil)) (.node (ob48 P) (.node (ob83 P) (.node (ob1012 P) .nil .nil) .nil) (.node (ob117 P) .nil .nil)))) (.node (ob2 P) (.node (ob12 P) (.node (ob28 P) (.node (ob60 P) (.node (ob130 P) .nil .nil) .nil) (.node (ob95 P) .nil .nil)) (.node (ob44 P) (.node (ob79 P) (.node (ob148 P) .nil .nil) .nil) (.node (ob113 P) .nil .nil))) (.node (ob20 P) (.node (ob36 P) (.node (ob69 P) (.node (ob138 P) .nil .nil) .nil) (.node (ob103 P) .nil .nil)) (.node (ob52 P) (.node (ob87 P) (.node (ob1016 P) .nil .nil) .nil) (.node (ob121 P) .nil .nil)))))) (.node (boot_o_2 P) (.node (boot_o_4 P) (.node (boot_o_8 P) (.node (ob7 P) (.node (ob23 P) (.node (ob55 P) (.node (ob125 P) .nil .nil) .nil) (.node (ob90 P) .nil .nil)) (.node (ob39 P) (.node (ob72 P) (.node (ob143 P) .nil .nil) .nil) (.node (ob106 P) .nil .nil))) (.node (ob15 P) (.node (ob31 P) (.node (ob64 P) (.node (ob133 P) .nil .nil) .nil) (.node (ob98 P) .nil .nil)) (.node (ob47 P) (.node (ob82 P) (.node (ob1001 P) .nil .nil) .nil) (.node (ob116 P) .nil .nil)))) (.node (ob142 P) (.node (ob11 P) (.node (ob27 P) (.node (ob59 P) (.node (ob129 P) .nil .nil) .nil) (.node (ob94 P) .nil .nil)) (.node (ob43 P) (.node (ob78 P) (.node (ob147 P) .nil .nil) .nil) (.node (ob112 P) .nil .nil))) (.node (ob19 P) (.node (ob35 P) (.node (ob68 P) (.node (ob137 P) .nil .nil) .nil) (.node (ob102 P) .nil .nil)) (.node (ob51 P) (.node (ob86 P) (.node (ob1015 P) .nil .nil) .nil) (.node (ob120 P) .nil .nil))))) (.node (boot_o_6 P) (.node (boot_o_10 P) (.node (ob9 P) (.node (ob25 P) (.node (ob57 P) (.node (ob127 P) .nil .nil) .nil) (.node (ob92 P) .nil .nil)) (.node (ob41 P) (.node (ob76 P) (.node (ob145 P) .nil .nil) .nil) (.node (ob108 P) .nil .nil))) (.node (ob17 P) (.node (ob33 P) (.node (ob66 P) (.node (ob135 P) .nil .nil) .nil) (.node (ob100 P) .nil .nil)) (.node (ob49 P) (.node (ob84 P) (.node (ob1013 P) .nil .nil) .nil) (.node (ob118 P) .nil .nil)))) (.node (ob3 P) (.node (ob13 P) (.node (ob29 P) (.node (ob61 P) (.node (ob131 P) .nil .nil) .nil) (.node (ob96 P) .nil .nil)) (.node (ob45 P) (.node (ob80 P) (.node (ob149 P) .nil .nil) .nil) (.node (ob114 P) .nil .nil))) (.node (ob21 P) (.node (ob37 P) (.node (ob70 P) (.node (ob139 P) .nil .nil) .nil) (.node (ob104 P) .nil .nil)) (.node (ob53 P) (.node (ob88 P) (.node (ob1017 P) .nil .nil) .nil) (.node (ob122 P) .nil .nil)))))))
noncomputable def s21c5 (w : World) (os : OsState) : SharedT := ⟨s21c5T w.params, 159, hlife, Array.mk [], ⟨0, 0, 0, 0⟩, 545, os⟩
noncomputable def ob1018 (P : Params) : Obj := ⟨(.type "set"), none, .set #[(917505, (.int 917505 443)), (917536, (.int 917536 449)), (917537, (.int 917537 450)), (917538, (.int 917538 451)), (917539, (.int 917539 452)), (917540, (.int 917540 453)), (917541, (.int 917541 454)), (917542, (.int 917542 455)), (917543, (.int 917543 456)), (917544, (.int 917544 457)), (917545, (.int 917545 458)), (917546, (.int 917546 459)), (917547, (.int 917547 460)), (917548, (.int 917548 461)), (917549, (.int 917549 462)), (917550, (.int 917550 463)), (917551, (.int 917551 464)), (917552, (.int 917552 465)), (917553, (.int 917553 466)), (917554, (.int 917554 467)), (917555, (.int 917555 468)), (917556, (.int 917556 469)), (917557, (.int 917557 470)), (917558, (.int 917558 471)), (917559, (.int 917559 472)), (917560, (.int 917560 473)), (917561, (.int 917561 474))] 29 { mask := 127, place := #[1, 32, 33, 34, 35, 36, 37, 38, 39, 40, 41, 42, 43, 44, 45, 46, 47, 48, 49, 50, 51, 52, 53, 54, 55, 56, 57], dummies := #[], finger := 0, led := !(P.followText "set-order"), moves := 2, plain := true }, #[]⟩
noncomputable def ob1019 (_ : Params) : Obj := ⟨(.type "list_iterator"), none, .fields #[(.ref 157), (.int 27 0)], #[]⟩
noncomputable def s21c6T (P : Params) : BT := (.node (boot_o_0 P) (.node (boot_o_1 P) (.node (ob141 P) (.node (boot_o_7 P) (.node (ob6 P) (.node (ob22 P) (.node (ob54 P) (.node (ob124 P) .nil .nil) .nil) (.node (ob89 P) (.node (ob1019 P) .nil .nil) .nil)) (.node (ob38 P) (.node (ob71 P) (.node (ob140 P) .nil .nil) .nil) (.node (ob105 P) .nil .nil))) (.node (ob14 P) (.node (ob30 P) (.node (ob63 P) (.node (ob132 P) .nil .nil) .nil) (.node (ob97 P) .nil .nil)) (.node (ob46 P) (.node (ob81 P) (.node (ob1000 P) .nil .nil) .nil) (.node (ob115 P) .nil .nil)))) (.node (ob0 P) (.node (ob10 P) (.node (ob26 P) (.node (ob58 P) (.node (ob128 P) .nil .nil) .nil) (.node (ob93 P) .nil .nil)) (.node (ob42 P) (.node (ob77 P) (.node (ob146 P) .nil .nil) .nil) (.node (ob111 P) .nil .nil))) (.node (ob18 P) (.node (ob34 P) (.node (ob67 P) (.node (ob136 P) .nil .nil) .nil) (.node (ob101 P) .nil .nil)) (.node (ob50 P) (.node (ob85 P) (.node (ob1014 P) .nil .nil) .nil) (.node (ob119 P) .nil .nil))))) (.node (boot_o_5 P) (.node (boot_o_9 P) (.node (ob8 P) (.node (ob24 P) (.node (ob56 P) (.node (ob126 P) .nil .nil) .nil) (.node (ob91 P) .nil .nil)) (.node (ob40 P) (.node (ob73 P) (.node (ob144 P) .nil .nil) .nil) (.node (ob107 P) .nil .nil))) (.node (ob16 P) (.node (ob32 P) (.node (ob65 P) (.node (ob134 P) .nil .nil) .nil) (.node (ob99 P) .nil .nil)) (.node (ob48 P) (.node (ob83 P) (.node (ob1012 P) .nil .nil) .nil) (.node (ob117 P) .nil .nil)))) (.node (ob2 P) (.node (ob12 P) (.node (ob28 P) (.node (ob60 P) (.node (ob130 P) .nil .nil) .nil) (.node (ob95 P) .nil .nil)) (.node (ob44 P) (.node (ob79 P) (.node (ob148 P) .nil .nil) .nil) (.node (ob113 P) .nil .nil))) (.node (ob20 P) (.node (ob36 P) (.node (ob69 P) (.node (ob138 P) .nil .nil) .nil) (.node (ob103 P) .nil .nil)) (.node (ob52 P) (.node (ob87 P) (.node (ob1016 P) .nil .nil) .nil) (.node (ob121 P) .nil .nil)))))) (.node (boot_o_2 P) (.node (boot_o_4 P) (.node (boot_o_8 P) (.node (ob7 P) (.node (ob23 P) (.node (ob55 P) (.node (ob125 P) .nil .nil) .nil) (.node (ob90 P) .nil .nil)) (.node (ob39 P) (.node (ob72 P) (.node (ob143 P) .nil .nil) .nil) (.node (ob106 P) .nil .nil))) (.node (ob15 P) (.node (ob31 P) (.node (ob64 P) (.node (ob133 P) .nil .nil) .nil) (.node (ob98 P) .nil .nil)) (.node (ob47 P) (.node (ob82 P) (.node (ob1001 P) .nil .nil) .nil) (.node (ob116 P) .nil .nil)))) (.node (ob142 P) (.node (ob11 P) (.node (ob27 P) (.node (ob59 P) (.node (ob129 P) .nil .nil) .nil) (.node (ob94 P) .nil .nil)) (.node (ob43 P) (.node (ob78 P) (.node (ob147 P) .nil .nil) .nil) (.node (ob112 P) .nil .nil))) (.node (ob19 P) (.node (ob35 P) (.node (ob68 P) (.node (ob137 P) .nil .nil) .nil) (.node (ob102 P) .nil .nil)) (.node (ob51 P) (.node (ob86 P) (.node (ob1015 P) .nil .nil) .nil) (.node (ob120 P) .nil .nil))))) (.node (boot_o_6 P) (.node (boot_o_10 P) (.node (ob9 P) (.node (ob25 P) (.node (ob57 P) (.node (ob127 P) .nil .nil) .nil) (.node (ob92 P) .nil .nil)) (.node (ob41 P) (.node (ob76 P) (.node (ob145 P) .nil .nil) .nil) (.node (ob108 P) .nil .nil))) (.node (ob17 P) (.node (ob33 P) (.node (ob66 P) (.node (ob135 P) .nil .nil) .nil) (.node (ob100 P) .nil .nil)) (.node (ob49 P) (.node (ob84 P) (.node (ob1013 P) .nil .nil) .nil) (.node (ob118 P) .nil .nil)))) (.node (ob3 P) (.node (ob13 P) (.node (ob29 P) (.node (ob61 P) (.node (ob131 P) .nil .nil) .nil) (.node (ob96 P) .nil .nil)) (.node (ob45 P) (.node (ob80 P) (.node (ob149 P) .nil .nil) .nil) (.node (ob114 P) .nil .nil))) (.node (ob21 P) (.node (ob37 P) (.node (ob70 P) (.node (ob139 P) .nil .nil) .nil) (.node (ob104 P) .nil .nil)) (.node (ob53 P) (.node (ob88 P) (.node (ob1018 P) .nil .nil) .nil) (.node (ob122 P) .nil .nil)))))))
noncomputable def s21c6 (w : World) (os : OsState) : SharedT := ⟨s21c6T w.params, 160, hlife, Array.mk [], ⟨0, 0, 0, 0⟩, 572, os⟩
noncomputable def ob1020 (P : Params) : Obj := ⟨(.type "set"), none, .set #[(917505, (.int 917505 443)), (917536, (.int 917536 449)), (917537, (.int 917537 450)), (917538, (.int 917538 451)), (917539, (.int 917539 452)), (917540, (.int 917540 453)), (917541, (.int 917541 454)), (917542, (.int 917542 455)), (917543, (.int 917543 456)), (917544, (.int 917544 457)), (917545, (.int 917545 458)), (917546, (.int 917546 459)), (917547, (.int 917547 460)), (917548, (.int 917548 461)), (917549, (.int 917549 462)), (917550, (.int 917550 463)), (917551, (.int 917551 464)), (917552, (.int 917552 465)), (917553, (.int 917553 466)), (917554, (.int 917554 467)), (917555, (.int 917555 468)), (917556, (.int 917556 469)), (917557, (.int 917557 470)), (917558, (.int 917558 471)), (917559, (.int 917559 472)), (917560, (.int 917560 473)), (917561, (.int 917561 474)), (917562, (.int 917562 475)), (917563, (.int 917563 476)), (917564, (.int 917564 477)), (917565, (.int 917565 478)), (917566, (.int 917566 479)), (917567, (.int 917567 480)), (917568, (.int 917568 481)), (917569, (.int 917569 482)), (917570, (.int 917570 483)), (917571, (.int 917571 484)), (917572, (.int 917572 485)), (917573, (.int 917573 486)), (917574, (.int 917574 487)), (917575, (.int 917575 488)), (917576, (.int 917576 489)), (917577, (.int 917577 490)), (917578, (.int 917578 491)), (917579, (.int 917579 492)), (917580, (.int 917580 493)), (917581, (.int 917581 494)), (917582, (.int 917582 495)), (917583, (.int 917583 496)), (917584, (.int 917584 497)), (917585, (.int 917585 498)), (917586, (.int 917586 499))] 54 { mask := 127, place := #[1, 32, 33, 34, 35, 36, 37, 38, 39, 40, 41, 42, 43, 44, 45, 46, 47, 48, 49, 50, 51, 52, 53, 54, 55, 56, 57, 58, 59, 60, 61, 62, 63, 64, 65, 66, 67, 68, 69, 70, 71, 72, 73, 74, 75, 76, 77, 78, 79, 80, 81, 82], dummies := #[], finger := 0, led := !(P.followText "set-order"), moves := 2, plain := true }, #[]⟩
noncomputable def ob1021 (_ : Params) : Obj := ⟨(.type "list_iterator"), none, .fields #[(.ref 157), (.int 52 0)], #[]⟩
noncomputable def s21c7T (P : Params) : BT := (.node (boot_o_0 P) (.node (boot_o_1 P) (.node (ob141 P) (.node (boot_o_7 P) (.node (ob6 P) (.node (ob22 P) (.node (ob54 P) (.node (ob124 P) .nil .nil) .nil) (.node (ob89 P) (.node (ob1021 P) .nil .nil) .nil)) (.node (ob38 P) (.node (ob71 P) (.node (ob140 P) .nil .nil) .nil) (.node (ob105 P) .nil .nil))) (.node (ob14 P) (.node (ob30 P) (.node (ob63 P) (.node (ob132 P) .nil .nil) .nil) (.node (ob97 P) .nil .nil)) (.node (ob46 P) (.node (ob81 P) (.node (ob1000 P) .nil .nil) .nil) (.node (ob115 P) .nil .nil)))) (.node (ob0 P) (.node (ob10 P) (.node (ob26 P) (.node (ob58 P) (.node (ob128 P) .nil .nil) .nil) (.node (ob93 P) .nil .nil)) (.node (ob42 P) (.node (ob77 P) (.node (ob146 P) .nil .nil) .nil) (.node (ob111 P) .nil .nil))) (.node (ob18 P) (.node (ob34 P) (.node (ob67 P) (.node (ob136 P) .nil .nil) .nil) (.node (ob101 P) .nil .nil)) (.node (ob50 P) (.node (ob85 P) (.node (ob1014 P) .nil .nil) .nil) (.node (ob119 P) .nil .nil))))) (.node (boot_o_5 P) (.node (boot_o_9 P) (.node (ob8 P) (.node (ob24 P) (.node (ob56 P) (.node (ob126 P) .nil .nil) .nil) (.node (ob91 P) .nil .nil)) (.node (ob40 P) (.node (ob73 P) (.node (ob144 P) .nil .nil) .nil) (.node (ob107 P) .nil .nil))) (.node (ob16 P) (.node (ob32 P) (.node (ob65 P) (.node (ob134 P) .nil .nil) .nil) (.node (ob99 P) .nil .nil)) (.node (ob48 P) (.node (ob83 P) (.node (ob1012 P) .nil .nil) .nil) (.node (ob117 P) .nil .nil)))) (.node (ob2 P) (.node (ob12 P) (.node (ob28 P) (.node (ob60 P) (.node (ob130 P) .nil .nil) .nil) (.node (ob95 P) .nil .nil)) (.node (ob44 P) (.node (ob79 P) (.node (ob148 P) .nil .nil) .nil) (.node (ob113 P) .nil .nil))) (.node (ob20 P) (.node (ob36 P) (.node (ob69 P) (.node (ob138 P) .nil .nil) .nil) (.node (ob103 P) .nil .nil)) (.node (ob52 P) (.node (ob87 P) (.node (ob1016 P) .nil .nil) .nil) (.node (ob121 P) .nil .nil)))))) (.node (boot_o_2 P) (.node (boot_o_4 P) (.node (boot_o_8 P) (.node (ob7 P) (.node (ob23 P) (.node (ob55 P) (.node (ob125 P) .nil .nil) .nil) (.node (ob90 P) .nil .nil)) (.node (ob39 P) (.node (ob72 P) (.node (ob143 P) .nil .nil) .nil) (.node (ob106 P) .nil .nil))) (.node (ob15 P) (.node (ob31 P) (.node (ob64 P) (.node (ob133 P) .nil .nil) .nil) (.node (ob98 P) .nil .nil)) (.node (ob47 P) (.node (ob82 P) (.node (ob1001 P) .nil .nil) .nil) (.node (ob116 P) .nil .nil)))) (.node (ob142 P) (.node (ob11 P) (.node (ob27 P) (.node (ob59 P) (.node (ob129 P) .nil .nil) .nil) (.node (ob94 P) .nil .nil)) (.node (ob43 P) (.node (ob78 P) (.node (ob147 P) .nil .nil) .nil) (.node (ob112 P) .nil .nil))) (.node (ob19 P) (.node (ob35 P) (.node (ob68 P) (.node (ob137 P) .nil .nil) .nil) (.node (ob102 P) .nil .nil)) (.node (ob51 P) (.node (ob86 P) (.node (ob1015 P) .nil .nil) .nil) (.node (ob120 P) .nil .nil))))) (.node (boot_o_6 P) (.node (boot_o_10 P) (.node (ob9 P) (.node (ob25 P) (.node (ob57 P) (.node (ob127 P) .nil .nil) .nil) (.node (ob92 P) .nil .nil)) (.node (ob41 P) (.node (ob76 P) (.node (ob145 P) .nil .nil) .nil) (.node (ob108 P) .nil .nil))) (.node (ob17 P) (.node (ob33 P) (.node (ob66 P) (.node (ob135 P) .nil .nil) .nil) (.node (ob100 P) .nil .nil)) (.node (ob49 P) (.node (ob84 P) (.node (ob1013 P) .nil .nil) .nil) (.node (ob118 P) .nil .nil)))) (.node (ob3 P) (.node (ob13 P) (.node (ob29 P) (.node (ob61 P) (.node (ob131 P) .nil .nil) .nil) (.node (ob96 P) .nil .nil)) (.node (ob45 P) (.node (ob80 P) (.node (ob149 P) .nil .nil) .nil) (.node (ob114 P) .nil .nil))) (.node (ob21 P) (.node (ob37 P) (.node (ob70 P) (.node (ob139 P) .nil .nil) .nil) (.node (ob104 P) .nil .nil)) (.node (ob53 P) (.node (ob88 P) (.node (ob1020 P) .nil .nil) .nil) (.node (ob122 P) .nil .nil)))))))
noncomputable def s21c7 (w : World) (os : OsState) : SharedT := ⟨s21c7T w.params, 160, hlife, Array.mk [], ⟨0, 0, 0, 0⟩, 597, os⟩
noncomputable def ob1022 (P : Params) : Obj := ⟨(.type "set"), none, .set #[(917505, (.int 917505 443)), (917536, (.int 917536 449)), (917537, (.int 917537 450)), (917538, (.int 917538 451)), (917539, (.int 917539 452)), (917540, (.int 917540 453)), (917541, (.int 917541 454)), (917542, (.int 917542 455)), (917543, (.int 917543 456)), (917544, (.int 917544 457)), (917545, (.int 917545 458)), (917546, (.int 917546 459)), (917547, (.int 917547 460)), (917548, (.int 917548 461)), (917549, (.int 917549 462)), (917550, (.int 917550 463)), (917551, (.int 917551 464)), (917552, (.int 917552 465)), (917553, (.int 917553 466)), (917554, (.int 917554 467)), (917555, (.int 917555 468)), (917556, (.int 917556 469)), (917557, (.int 917557 470)), (917558, (.int 917558 471)), (917559, (.int 917559 472)), (917560, (.int 917560 473)), (917561, (.int 917561 474)), (917562, (.int 917562 475)), (917563, (.int 917563 476)), (917564, (.int 917564 477)), (917565, (.int 917565 478)), (917566, (.int 917566 479)), (917567, (.int 917567 480)), (917568, (.int 917568 481)), (917569, (.int 917569 482)), (917570, (.int 917570 483)), (917571, (.int 917571 484)), (917572, (.int 917572 485)), (917573, (.int 917573 486)), (917574, (.int 917574 487)), (917575, (.int 917575 488)), (917576, (.int 917576 489)), (917577, (.int 917577 490)), (917578, (.int 917578 491)), (917579, (.int 917579 492)), (917580, (.int 917580 493)), (917581, (.int 917581 494)), (917582, (.int 917582 495)), (917583, (.int 917583 496)), (917584, (.int 917584 497)), (917585, (.int 917585 498)), (917586, (.int 917586 499)), (917587, (.int 917587 500)), (917588, (.int 917588 501)), (917589, (.int 917589 502)), (917590, (.int 917590 503)), (917591, (.int 917591 504)), (917592, (.int 917592 505)), (917593, (.int 917593 506)), (917594, (.int 917594 507)), (917595, (.int 917595 508)), (917596, (.int 917596 509)), (917597, (.int 917597 510)), (917598, (.int 917598 511)), (917599, (.int 917599 512)), (917600, (.int 917600 513)), (917601, (.int 917601 514)), (917602, (.int 917602 515)), (917603, (.int 917603 516)), (917604, (.int 917604 517)), (917605, (.int 917605 518)), (917606, (.int 917606 519)), (917607, (.int 917607 520)), (917608, (.int 917608 521)), (917609, (.int 917609 522)), (917610, (.int 917610 523)), (917611, (.int 917611 524))] 80 { mask := 511, place := #[1, 32, 33, 34, 35, 36, 37, 38, 39, 40, 41, 42, 43, 44, 45, 46, 47, 48, 49, 50, 51, 52, 53, 54, 55, 56, 57, 58, 59, 60, 61, 62, 63, 64, 65, 66, 67, 68, 69, 70, 71, 72, 73, 74, 75, 76, 77, 78, 79, 80, 81, 82, 83, 84, 85, 86, 87, 88, 89, 90, 91, 92, 93, 94, 95, 96, 97, 98, 99, 100, 101, 102, 103, 104, 105, 106, 107], dummies := #[], finger := 0, led := !(P.followText "set-order"), moves := 3, plain := true }, #[]⟩
noncomputable def ob1023 (_ : Params) : Obj := ⟨(.type "list_iterator"), none, .fields #[(.ref 157), (.int 77 0)], #[]⟩
noncomputable def s21c8T (P : Params) : BT := (.node (boot_o_0 P) (.node (boot_o_1 P) (.node (ob141 P) (.node (boot_o_7 P) (.node (ob6 P) (.node (ob22 P) (.node (ob54 P) (.node (ob124 P) .nil .nil) .nil) (.node (ob89 P) (.node (ob1023 P) .nil .nil) .nil)) (.node (ob38 P) (.node (ob71 P) (.node (ob140 P) .nil .nil) .nil) (.node (ob105 P) .nil .nil))) (.node (ob14 P) (.node (ob30 P) (.node (ob63 P) (.node (ob132 P) .nil .nil) .nil) (.node (ob97 P) .nil .nil)) (.node (ob46 P) (.node (ob81 P) (.node (ob1000 P) .nil .nil) .nil) (.node (ob115 P) .nil .nil)))) (.node (ob0 P) (.node (ob10 P) (.node (ob26 P) (.node (ob58 P) (.node (ob128 P) .nil .nil) .nil) (.node (ob93 P) .nil .nil)) (.node (ob42 P) (.node (ob77 P) (.node (ob146 P) .nil .nil) .nil) (.node (ob111 P) .nil .nil))) (.node (ob18 P) (.node (ob34 P) (.node (ob67 P) (.node (ob136 P) .nil .nil) .nil) (.node (ob101 P) .nil .nil)) (.node (ob50 P) (.node (ob85 P) (.node (ob1014 P) .nil .nil) .nil) (.node (ob119 P) .nil .nil))))) (.node (boot_o_5 P) (.node (boot_o_9 P) (.node (ob8 P) (.node (ob24 P) (.node (ob56 P) (.node (ob126 P) .nil .nil) .nil) (.node (ob91 P) .nil .nil)) (.node (ob40 P) (.node (ob73 P) (.node (ob144 P) .nil .nil) .nil) (.node (ob107 P) .nil .nil))) (.node (ob16 P) (.node (ob32 P) (.node (ob65 P) (.node (ob134 P) .nil .nil) .nil) (.node (ob99 P) .nil .nil)) (.node (ob48 P) (.node (ob83 P) (.node (ob1012 P) .nil .nil) .nil) (.node (ob117 P) .nil .nil)))) (.node (ob2 P) (.node (ob12 P) (.node (ob28 P) (.node (ob60 P) (.node (ob130 P) .nil .nil) .nil) (.node (ob95 P) .nil .nil)) (.node (ob44 P) (.node (ob79 P) (.node (ob148 P) .nil .nil) .nil) (.node (ob113 P) .nil .nil))) (.node (ob20 P) (.node (ob36 P) (.node (ob69 P) (.node (ob138 P) .nil .nil) .nil) (.node (ob103 P) .nil .nil)) (.node (ob52 P) (.node (ob87 P) (.node (ob1016 P) .nil .nil) .nil) (.node (ob121 P) .nil .nil)))))) (.node (boot_o_2 P) (.node (boot_o_4 P) (.node (boot_o_8 P) (.node (ob7 P) (.node (ob23 P) (.node (ob55 P) (.node (ob125 P) .nil .nil) .nil) (.node (ob90 P) .nil .nil)) (.node (ob39 P) (.node (ob72 P) (.node (ob143 P) .nil .nil) .nil) (.node (ob106 P) .nil .nil))) (.node (ob15 P) (.node (ob31 P) (.node (ob64 P) (.node (ob133 P) .nil .nil) .nil) (.node (ob98 P) .nil .nil)) (.node (ob47 P) (.node (ob82 P) (.node (ob1001 P) .nil .nil) .nil) (.node (ob116 P) .nil .nil)))) (.node (ob142 P) (.node (ob11 P) (.node (ob27 P) (.node (ob59 P) (.node (ob129 P) .nil .nil) .nil) (.node (ob94 P) .nil .nil)) (.node (ob43 P) (.node (ob78 P) (.node (ob147 P) .nil .nil) .nil) (.node (ob112 P) .nil .nil))) (.node (ob19 P) (.node (ob35 P) (.node (ob68 P) (.node (ob137 P) .nil .nil) .nil) (.node (ob102 P) .nil .nil)) (.node (ob51 P) (.node (ob86 P) (.node (ob1015 P) .nil .nil) .nil) (.node (ob120 P) .nil .nil))))) (.node (boot_o_6 P) (.node (boot_o_10 P) (.node (ob9 P) (.node (ob25 P) (.node (ob57 P) (.node (ob127 P) .nil .nil) .nil) (.node (ob92 P) .nil .nil)) (.node (ob41 P) (.node (ob76 P) (.node (ob145 P) .nil .nil) .nil) (.node (ob108 P) .nil .nil))) (.node (ob17 P) (.node (ob33 P) (.node (ob66 P) (.node (ob135 P) .nil .nil) .nil) (.node (ob100 P) .nil .nil)) (.node (ob49 P) (.node (ob84 P) (.node (ob1013 P) .nil .nil) .nil) (.node (ob118 P) .nil .nil)))) (.node (ob3 P) (.node (ob13 P) (.node (ob29 P) (.node (ob61 P) (.node (ob131 P) .nil .nil) .nil) (.node (ob96 P) .nil .nil)) (.node (ob45 P) (.node (ob80 P) (.node (ob149 P) .nil .nil) .nil) (.node (ob114 P) .nil .nil))) (.node (ob21 P) (.node (ob37 P) (.node (ob70 P) (.node (ob139 P) .nil .nil) .nil) (.node (ob104 P) .nil .nil)) (.node (ob53 P) (.node (ob88 P) (.node (ob1022 P) .nil .nil) .nil) (.node (ob122 P) .nil .nil)))))))
noncomputable def s21c8 (w : World) (os : OsState) : SharedT := ⟨s21c8T w.params, 160, hlife, Array.mk [], ⟨0, 0, 0, 0⟩, 622, os⟩
noncomputable def th21c0 (w : World) (os : OsState) : Thread := match PySem.W.Fast.tw10295753902157049106 PySem.W.Fast.tw14364793385576792824 pwH w 11 annE 1 119 (sP21 w os) (piecesOf sts21 envE cE ⟨47, 0, 48, 30⟩ [topFrame p0]) with | some (_, t) => t | none => ⟨doneF .next, cE, p0, []⟩
noncomputable def thA (w : World) (os : OsState) : Thread := th21c0 (wOne w) os
noncomputable def GD0 (w : World) : Prop := (fun os => segGoT treeTable pwH w 11 annE 1 119 (sP21 w os) (piecesOf sts21 envE cE ⟨47, 0, 48, 30⟩ [topFrame p0])) = fun os => some (s21c0 w os, thA w os)
theorem GD0_0 (w : World) : GD0 ((w.withFollow "special-get-raises" false).withFollow "set-order" false) := by unfold GD0; rw [PySem.W.Fast.te10295753902157049106, PySem.W.Fast.te14364793385576792824]; kernel_rfl
theorem GD0_1 (w : World) : GD0 ((w.withFollow "special-get-raises" true).withFollow "set-order" false) := by unfold GD0; rw [PySem.W.Fast.te10295753902157049106, PySem.W.Fast.te14364793385576792824]; kernel_rfl
theorem GD0_2 (w : World) : GD0 ((w.withFollow "special-get-raises" false).withFollow "set-order" true) := by unfold GD0; rw [PySem.W.Fast.te10295753902157049106, PySem.W.Fast.te14364793385576792824]; kernel_rfl
theorem GD0_3 (w : World) : GD0 ((w.withFollow "special-get-raises" true).withFollow "set-order" true) := by unfold GD0; rw [PySem.W.Fast.te10295753902157049106, PySem.W.Fast.te14364793385576792824]; kernel_rfl
theorem GD0_t : ∀ w : World, GD0 w := byRow2 (P := GD0) "set-order" (byRow2 (P := fun w => GD0 (w.withFollow "set-order" false)) "special-get-raises" GD0_0 GD0_1) (byRow2 (P := fun w => GD0 (w.withFollow "set-order" true)) "special-get-raises" GD0_2 GD0_3)
noncomputable def GD1 (w : World) : Prop := (fun os => segGoT treeTable pwH w 11 annE 1 391 (s21c0 w os) (thA w os)) = fun os => some (s21c1 w os, thA w os)
theorem GD1_t (w : World) : GD1 w := by unfold GD1; rw [PySem.W.Fast.te10295753902157049106, PySem.W.Fast.te14364793385576792824]; kernel_rfl
noncomputable def GD2 (w : World) : Prop := (fun os => segGoT treeTable pwH w 11 annE 1 391 (s21c1 w os) (thA w os)) = fun os => some (s21c2 w os, thA w os)
theorem GD2_t (w : World) : GD2 w := by unfold GD2; rw [PySem.W.Fast.te10295753902157049106, PySem.W.Fast.te14364793385576792824]; kernel_rfl
noncomputable def GD3 (w : World) : Prop := (fun os => segGoT treeTable pwH w 11 annE 1 391 (s21c2 w os) (thA w os)) = fun os => some (s21c3 w os, thA w os)
theorem GD3_t (w : World) : GD3 w := by unfold GD3; rw [PySem.W.Fast.te10295753902157049106, PySem.W.Fast.te14364793385576792824]; kernel_rfl
noncomputable def GD4 (w : World) : Prop := (fun os => segGoT treeTable pwH w 11 annE 1 391 (s21c3 w os) (thA w os)) = fun os => some (s21c4 w os, thA w os)
theorem GD4_t (w : World) : GD4 w := by unfold GD4; rw [PySem.W.Fast.te10295753902157049106, PySem.W.Fast.te14364793385576792824]; kernel_rfl
noncomputable def thX (w : World) (os : OsState) : Thread := match PySem.W.Fast.tw10295753902157049106 PySem.W.Fast.tw14364793385576792824 pwH (wOne w) 11 annE 1 77 (s21c4 (wOne w) os) (thA (wOne w) os) with | some (_, t) => t | none => ⟨doneF .next, cE, p0, []⟩
noncomputable def GD5 (w : World) : Prop := (fun os => segGoT treeTable pwH w 11 annE 1 77 (s21c4 w os) (thA w os)) = fun os => some (s21c5 w os, thX w os)
theorem GD5_0 (w : World) : GD5 (w.withFollow "set-order" false) := by unfold GD5; rw [PySem.W.Fast.te10295753902157049106, PySem.W.Fast.te14364793385576792824]; kernel_rfl
theorem GD5_1 (w : World) : GD5 (w.withFollow "set-order" true) := by unfold GD5; rw [PySem.W.Fast.te10295753902157049106, PySem.W.Fast.te14364793385576792824]; kernel_rfl
theorem GD5_t : ∀ w : World, GD5 w := byRow2 (P := GD5) "set-order" GD5_0 GD5_1
noncomputable def thB (w : World) (os : OsState) : Thread := match PySem.W.Fast.tw10295753902157049106 PySem.W.Fast.tw14364793385576792824 pwH w 11 annE 1 60 (s21c5 w os) (thX w os) with | some (_, t) => t | none => ⟨doneF .next, cE, p0, []⟩
noncomputable def GD6 (w : World) : Prop := (fun os => segGoT treeTable pwH w 11 annE 1 564 (s21c5 w os) (thX w os)) = fun os => some (s21c6 w os, thB w os)
theorem GD6_0 (w : World) : GD6 (w.withFollow "special-get-raises" false) := by unfold GD6; rw [PySem.W.Fast.te10295753902157049106, PySem.W.Fast.te14364793385576792824]; kernel_rfl
theorem GD6_1 (w : World) : GD6 (w.withFollow "special-get-raises" true) := by unfold GD6; rw [PySem.W.Fast.te10295753902157049106, PySem.W.Fast.te14364793385576792824]; kernel_rfl
theorem GD6_t : ∀ w : World, GD6 w := byRow2 (P := GD6) "special-get-raises" GD6_0 GD6_1
noncomputable def GD7 (w : World) : Prop := (fun os => segGoT treeTable pwH w 11 annE 1 500 (s21c6 w os) (thB w os)) = fun os => some (s21c7 w os, thB w os)
theorem GD7_0 (w : World) : GD7 (w.withFollow "special-get-raises" false) := by unfold GD7; rw [PySem.W.Fast.te10295753902157049106, PySem.W.Fast.te14364793385576792824]; kernel_rfl
theorem GD7_1 (w : World) : GD7 (w.withFollow "special-get-raises" true) := by unfold GD7; rw [PySem.W.Fast.te10295753902157049106, PySem.W.Fast.te14364793385576792824]; kernel_rfl
theorem GD7_t : ∀ w : World, GD7 w := byRow2 (P := GD7) "special-get-raises" GD7_0 GD7_1
noncomputable def GD8 (w : World) : Prop := (fun os => segGoT treeTable pwH w 11 annE 1 502 (s21c7 w os) (thB w os)) = fun os => some (s21c8 w os, thB w os)
theorem GD8_0 (w : World) : GD8 (w.withFollow "special-get-raises" false) := by unfold GD8; rw [PySem.W.Fast.te10295753902157049106, PySem.W.Fast.te14364793385576792824]; kernel_rfl
theorem GD8_1 (w : World) : GD8 (w.withFollow "special-get-raises" true) := by unfold GD8; rw [PySem.W.Fast.te10295753902157049106, PySem.W.Fast.te14364793385576792824]; kernel_rfl
theorem GD8_t : ∀ w : World, GD8 w := byRow2 (P := GD8) "special-get-raises" GD8_0 GD8_1
noncomputable def GDend (w : World) : Prop := (fun os => segRunT treeTable pwH w 11 annE 1 425 (s21c8 w os) (thB w os)) = fun os => some (.next, sP22 w os, cE, ⟨49, 0, 49, 6⟩)
theorem GDend_0 (w : World) : GDend (w.withFollow "special-get-raises" false) := by unfold GDend; rw [PySem.W.Fast.te10110043849684766642, PySem.W.Fast.te14364793385576792824]; kernel_rfl
theorem GDend_1 (w : World) : GDend (w.withFollow "special-get-raises" true) := by unfold GDend; rw [PySem.W.Fast.te10110043849684766642, PySem.W.Fast.te14364793385576792824]; kernel_rfl
theorem GDend_t : ∀ w : World, GDend w := byRow2 (P := GDend) "special-get-raises" GDend_0 GDend_1
end
end MineH
set_option maxRecDepth 100000
open PySem PySem.W PySem.Calls PyProof.Rows
namespace MineH
noncomputable section
theorem pc21 (w : World) (os : OsState) : segRun treeTable pwH w 11 annE 1 (119 + (391 + (391 + (391 + (391 + (77 + (564 + (500 + (502 + 425))))))))) (sP21 w os).abs (piecesOf sts21 envE cE ⟨47, 0, 48, 30⟩ [topFrame p0]) = some (.next, (sP22 w os).abs, cE, ⟨49, 0, 49, 6⟩) :=
  seg_go (segGo_of (congrFun (GD0_t w) os)) (seg_go (segGo_of (congrFun (GD1_t w) os)) (seg_go (segGo_of (congrFun (GD2_t w) os)) (seg_go (segGo_of (congrFun (GD3_t w) os)) (seg_go (segGo_of (congrFun (GD4_t w) os))
    (seg_go (segGo_of (congrFun (GD5_t w) os)) (seg_go (segGo_of (congrFun (GD6_t w) os)) (seg_go (segGo_of (congrFun (GD7_t w) os)) (seg_go (segGo_of (congrFun (GD8_t w) os)) (segRun_of (congrFun (GDend_t w) os))))))))))
/-- the steps of the top -/
noncomputable def topM : Nat := 12 + (1 + (268 + (999 + (317 + (390 + (775 + (30 + ((119 + (391 + (391 + (391 + (391 + (77 + (564 + (500 + (502 + 425))))))))) + (252 + 2)))))))))
theorem runT (w : World) (os : OsState) : topRun treeTable pwH w 11 annE topM (s0 w os) (topStub pwH) = some (sF w os) := by
  unfold topM
  refine go_top (congrFun (preT w) os) ?_
  refine piece_block (congrFun (blockT w) os) ?_
  refine piece_app (l := sts0) (segRun_of (congrFun (pc0 w) os)) ?_
  refine piece_app (l := sts11) (segRun_of (congrFun (pc11 w) os)) ?_
  refine piece_app (l := sts12) (segRun_of (congrFun (pc12 w) os)) ?_
  refine piece_app (l := sts17) (segRun_of (congrFun (pc17 w) os)) ?_
  refine piece_app (l := sts19) (segRun_of (congrFun (pc19 w) os)) ?_
  refine piece_app (l := sts20) (segRun_of (congrFun (pc20 w) os)) ?_
  refine piece_app (l := sts21) (pc21 w os) ?_
  refine piece_app (l := sts22) (rest := []) (segRun_of (congrFun (pc22 w) os)) ?_
  exact piece_nil (congrFun (finT w) os)
end
end MineH
set_option maxRecDepth 100000
open PySem PySem.W PySem.Calls PyProof.Rows
namespace MineH
noncomputable section
noncomputable def setElemsH : Nat → List Int
  | 0 => [65024, 65025, 65026, 65027, 65028, 65029, 6150, 65030, 65031, 65032, 65033, 6155, 6156, 6157, 8203, 8204, 8205, 65034, 65035, 65036, 65037, 65038, 65039, 173, 847, 8288, 65279]
  | 1 => [65529, 65530, 65531, 65532, 65533]
  | 2 => [12272, 12273, 12274, 12275, 12276, 12277, 12278, 12279, 12280, 12281, 12282, 12283]
  | 3 => [832, 833, 8234, 8235, 8236, 8237, 8206, 8207, 8238, 8298, 8299, 8300, 8301, 8302, 8303]
  | 4 => 917505 :: (List.range 96).map fun i => (917536 + Int.ofNat i : Int)
  | _ => []
noncomputable def setName : Nat → Str
  | 0 => "b1_set"
  | 1 => "c6_set"
  | 2 => "c7_set"
  | 3 => "c8_set"
  | _ => "c9_set"
noncomputable def elemOk (e : Int × Value) (i : Int) : Bool := match e.2 with
  | .int j _ => (j == i) && (e.1 == hashInt i)
  | _ => false
noncomputable def elemsOk : List (Int × Value) → List Int → Bool
  | [], [] => true
  | e :: es, i :: l => elemOk e i && elemsOk es l
  | _, _ => false
noncomputable def setObjOk (o : Obj) (l : List Int) : Bool := match o with
  | ⟨.type c, none, .set es _ t, sl⟩ => (c == "set") && (sl.size == 0) && elemsOk es.toList l && t.fits es.size && Nat.blt es.size 200
  | _ => false
noncomputable def setSeen (s : Shared) (k : Nat) : Bool := match s.heap.nsMap mainGlobals (setName k) with
  | some (.ref a) => match s.heap.get? a with
    | some o => setObjOk o (setElemsH k)
    | none => false
  | _ => false
noncomputable def YfS (s : Shared) : Bool × Bool × Bool × Bool × Bool × Bool := (s.heap.isNs mainGlobals, setSeen s 0, setSeen s 1, setSeen s 2, setSeen s 3, setSeen s 4)
noncomputable def YaS (_ : World) : Bool × Bool × Bool × Bool × Bool × Bool := (true, true, true, true, true, true)
noncomputable def qV : Program := view pwH [1, 2, 3, 4, 5, 6, 7, 9, 11, 12, 13, 14, 15, 16, 17, 18, 19, 20, 21, 22, 24, 25, 26, 27, 28, 29, 30, 31]
noncomputable def looseV : List Str := ["b1_set", "c6_set", "c7_set", "c8_set", "c9_set"]
noncomputable def XtV (_ : Shared) : Bool := true
noncomputable abbrev sFg (w : World) (os : OsState) : Shared := ⟨sFH w.params, Array.mk [], ⟨0, 0, 0, 0⟩, 703, os⟩
noncomputable def oS (w : World) (os : OsState) := openSeen qV looseV (importedModules pwH.main.body) XtV true (sFg w os)
theorem openT (w : World) : (fencedOpening treeTable pwH w 1000000).map (fun s => (s.heap, s.gens, s.drawn, s.toks)) = some (boot_heap w.params, Array.mk [], boot_drawn, boot_toks) :=
  boot_open (by kernel_rfl) (by decide) (fun s => by kernel_rfl) w
theorem sizeT (w : World) : ((boot_heap w.params).isNs mainGlobals && (Array.mk [] : Array GenState).size == 0, (boot_heap w.params).objs.size, (boot_heap w.params).nsMap mainGlobals "__annotations__") = (true, 11, annE) := by kernel_rfl
theorem look0 (w : World) (os : OsState) : (staticsOk (importedModules pwH.main.body) (boot_heap w.params) (sFH w.params) && namesBound pwH (sFH w.params) && gensDone (sFg w os) && laidKept (boot_heap w.params) (sFH w.params)) = true := by kernel_rfl
theorem lookY (w : World) (os : OsState) : YfS (sFg w os) = YaS w := by kernel_rfl
theorem l1 (w : World) (os : OsState) : seen ((recsOf qV).map (·.name)) (ownsOf qV) [] { sFg w os with gens := #[] } = expectedOf qV := by kernel_rfl
theorem l2 (w : World) : (sFH w.params).bltView = bltViewBooted := by kernel_rfl
theorem l3 (w : World) (os : OsState) : ((sFH w.params).keysOk (looseW qV looseV) ((recsOf qV).map (·.name)) ((litsOf qV).map (·.1)) ((clssOf qV (looseW qV looseV)).map (·.name)) && (sFH w.params).accountedOkI (importedModules pwH.main.body) && (sFH w.params).isNs mainGlobals && (sFH w.params).isNs builtinsNs && tablesOk qV (sFH w.params) && XtV (sFg w os) && (if true then (sFg w os).gens.size == 0 else !leftWithCleanup (sFg w os).gens)) = true := by kernel_rfl
theorem l4 (w : World) (os : OsState) : tabsOk qV (sFg w os) = true := by kernel_rfl
theorem l5 (w : World) (os : OsState) : pinSeenD qV (drecsOf qV) (sFg w os) = pinGoodD (drecsOf qV) := by kernel_rfl
theorem l6 (w : World) (os : OsState) : plainSeenE qV (looseW qV looseV) (sFg w os) = plainGoodE qV (looseW qV looseV) := by kernel_rfl
theorem l7 (w : World) (os : OsState) : plainSeenD qV looseV (sFg w os) = plainGoodD qV looseV := by kernel_rfl
theorem l8 (w : World) (os : OsState) : wideSeen qV (sFg w os) = wideGood qV := by kernel_rfl
theorem l9 (w : World) (os : OsState) : clsSeenW qV looseV (sFg w os) = clsGoodW qV looseV := by kernel_rfl
end
end MineH
set_option maxRecDepth 100000
open PySem PySem.W PySem.Calls PyProof.Rows
namespace MineH
noncomputable section
theorem lookS (w : World) (os : OsState) : openSeen qV looseV (importedModules pwH.main.body) XtV true (sFg w os) = openGood qV looseV :=
  looks_pair (l1 w os) (looks_pair (l2 w) (looks_pair (l3 w os) (looks_pair (l4 w os) (looks_pair (l5 w os) (looks_pair (l6 w os) (looks_pair (l7 w os) (looks_pair (l8 w os) (l9 w os))))))))
theorem leftOf {M : Nat} (run : ∀ (w : World) (os : OsState), topRun treeTable pwH w 11 annE M ⟨boot_heap w.params, Array.mk [], boot_drawn, boot_toks, os⟩ (topStub pwH) = some ⟨sFH w.params, Array.mk [], ⟨0, 0, 0, 0⟩, 703, os⟩) (le : Nat.ble M 1000000 = true) :
    LeftO pwH qV looseV XtV YfS YaS 1000000 :=
  LeftO.of_pieces (H₀ := boot_heap) (H₁ := sFH) (gs₀ := Array.mk []) (gs₁ := Array.mk []) (d₀ := boot_drawn) (d₁ := ⟨0, 0, 0, 0⟩) (k₀ := boot_toks) (k₁ := 703) (m₀ := 11) (ann := annE) openT sizeT run le
    fun w => funext fun os => looks_pair (look0 w os) (looks_pair (lookS w os) (lookY w os))
/-! what the looks say of the five sets -/
theorem elemsOk_spec : ∀ {es : List (Int × Value)} {l : List Int}, elemsOk es l = true → (∀ e ∈ es, ∃ i t, e = (hashInt i, Value.int i t) ∧ i ∈ l) ∧ ∀ i ∈ l, ∃ e ∈ es, ∃ t, e = (hashInt i, Value.int i t)
  | [], [], _ => ⟨fun e he => (nomatch he), fun i hi => (nomatch hi)⟩
  | [], _ :: _, h => by cases h
  | _ :: _, [], h => by cases h
  | (hv, v) :: es, i :: l, h => by
    have h' : (elemOk (hv, v) i && elemsOk es l) = true := h
    rw [Bool.and_eq_true] at h'
    obtain ⟨h1, h2⟩ := h'
    obtain ⟨i1, i2⟩ := elemsOk_spec h2
    have he : ∃ t, (hv, v) = (hashInt i, Value.int i t) := by
      unfold elemOk at h1
      split at h1
      · rename_i j t e
        rw [Bool.and_eq_true, beq_iff_eq, beq_iff_eq] at h1
        obtain ⟨rfl, e2⟩ := h1
        exact ⟨t, by rw [show v = Value.int j t from e, show hv = hashInt j from e2]⟩
      · cases h1
    obtain ⟨t, he⟩ := he
    refine ⟨fun e hm => ?_, fun k hk => ?_⟩
    · rcases List.mem_cons.mp hm with rfl | hm
      · exact ⟨i, t, he, List.mem_cons_self ..⟩
      · obtain ⟨k, t', e1, e2⟩ := i1 e hm
        exact ⟨k, t', e1, List.mem_cons_of_mem _ e2⟩
    · rcases List.mem_cons.mp hk with rfl | hk
      · exact ⟨_, List.mem_cons_self .., t, he⟩
      · obtain ⟨e, hm, t', q⟩ := i2 k hk
        exact ⟨e, List.mem_cons_of_mem _ hm, t', q⟩
theorem setObj_spec {w : World} {o : Obj} {l : List Int} (h : setObjOk o l = true) {S : Int → Bool} (hS : ∀ i, S i = true ↔ i ∈ l) : ∃ n, o.SetObjOf (intKind pwH w) S n ∧ n < scanBound := by
  unfold setObjOk at h
  split at h
  · rename_i c es ep t sl
    simp only [Bool.and_eq_true, beq_iff_eq] at h
    obtain ⟨⟨⟨⟨h1, h2⟩, h3⟩, h4⟩, h5⟩ := h
    obtain ⟨e1, e2⟩ := elemsOk_spec h3
    have hsl : sl = #[] := Array.eq_empty_of_size_eq_zero h2
    subst h1 hsl
    refine ⟨es.size, ⟨⟨rfl, rfl, rfl⟩, es, ep, t, rfl, fun e he => ?_, fun i => ?_, rfl, h4⟩, ?_⟩
    · obtain ⟨i, t', q, _⟩ := e1 e he
      subst q
      exact ⟨⟨i, by show (i == i) = true; exact beq_self_eq_true i, rfl⟩, rfl⟩
    · rw [hS i]
      constructor
      · intro hi
        obtain ⟨e, hm, t', q⟩ := e2 i hi
        subst q
        exact ⟨_, hm, by show (i == i) = true; exact beq_self_eq_true i⟩
      · rintro ⟨e, hm, q⟩
        obtain ⟨j, t', q', hj⟩ := e1 e hm
        subst q'
        have : (j == i) = true := q
        rw [← eq_of_beq this]; exact hj
    · have := Nat.blt_eq.mp h5
      show es.size < 4096
      omega
  · cases h
/-- the five sets, seen from the heap -/
noncomputable def YPV (w : World) (h : Heap) : Prop := ∀ k, k < 5 → ∃ mg a n, h.Ns mainGlobals mg ∧ mg (setName k) = some (.ref a) ∧ h.SetOf (intKind pwH w) a (fun i => (setElemsH k).contains i) n
theorem setSeen_spec {s : Shared} {k : Nat} (w : World) (hn : s.heap.isNs mainGlobals = true) (h : setSeen s k = true) : ∃ mg a n, s.heap.Ns mainGlobals mg ∧ mg (setName k) = some (.ref a) ∧ s.heap.SetOf (intKind pwH w) a (fun i => (setElemsH k).contains i) n := by
  unfold setSeen at h
  split at h
  · rename_i a ha
    split at h
    · rename_i o ho
      obtain ⟨n, q, hq⟩ := setObj_spec (w := w) h (S := fun i => (setElemsH k).contains i) (fun i => List.contains_iff_mem)
      exact ⟨_, a, n, Heap.Ns.of_isNs hn, ha, q.setOf ho hq⟩
    · cases h
  · cases h
theorem hYV (w : World) (s : Shared) (h : YfS s = YaS w) : YPV w s.heap := by
  have h0 : s.heap.isNs mainGlobals = true := congrArg (fun x => x.1) h
  intro k hk
  rcases k with _ | _ | _ | _ | _ | k
  · exact setSeen_spec w h0 (congrArg (fun x => x.2.1) h)
  · exact setSeen_spec w h0 (congrArg (fun x => x.2.2.1) h)
  · exact setSeen_spec w h0 (congrArg (fun x => x.2.2.2.1) h)
  · exact setSeen_spec w h0 (congrArg (fun x => x.2.2.2.2.1) h)
  · exact setSeen_spec w h0 (congrArg (fun x => x.2.2.2.2.2) h)
  · omega
theorem hYkV (w : World) (h h' : Heap) (Y : YPV w h) (hk : ∀ b o, h.get? b = some o → h'.get? b = some o) : YPV w h' := by
  intro k hk'
  obtain ⟨mg, a, n, h1, h2, o, es, ep, t, e, r⟩ := Y k hk'
  exact ⟨mg, a, n, h1.keeps hk, h2, o, es, ep, t, hk _ _ e, r⟩
end
end MineH
set_option maxRecDepth 100000
open PySem PySem.W PySem.Calls PyProof.Rows
namespace Mine
open MineH
noncomputable def rW : OpenRow := PySem.Challenge.rw_yf0003_01.row
noncomputable def lawD : DefRec := match defOf qV "law" with
  | some p => p.1
  | none => ⟨"law", ⟨[], [], none, [], [], none, []⟩, [], noSc, noP⟩
theorem defL : defOf qV "law" = some (lawD, []) := by kernel_rfl
noncomputable def recs : List DefRec := recsOf qV
theorem recs_fn : (List.range 23).map fnOf = recs.map fun d => some (⟨d.name, d.params, d.body, d.scope⟩ : Fn) := by kernel_rfl
theorem rec_at {i : Nat} (hi : i < 23) : ∃ d, recs[i]? = some d ∧ d ∈ recs ∧ fnOf i = some ⟨d.name, d.params, d.body, d.scope⟩ := by
  have h := congrArg (·[i]?) recs_fn
  simp only [List.getElem?_map, List.getElem?_range hi, Option.map_some] at h
  cases e : recs[i]? with
  | none => rw [e] at h; cases h
  | some d =>
    rw [e] at h
    exact ⟨d, rfl, List.mem_of_getElem? e, Option.some.inj h⟩
/-- the def's address -/
noncomputable def defAt (mg : Str → Option Value) (i : Nat) : Addr := match recs[i]? with
  | some d => match mg d.name with
    | some (.ref a) => a
    | _ => 0
  | none => 0
noncomputable def setAt (mg : Str → Option Value) (k : Nat) : Addr := match mg (setName k) with
  | some (.ref a) => a
  | _ => 0
theorem look_mem {x : Str} {v : AV} : ∀ {l : List (Str × AV)}, look l x = some v → (x, v) ∈ l
  | [], h => by cases h
  | (y, w) :: r, h => by
    unfold look at h
    split at h
    · rename_i e
      cases h
      rw [sEqB_iff.mp e]; exact List.mem_cons_self ..
    · exact List.mem_cons_of_mem _ (look_mem h)
noncomputable def bltL : List (Str × AV) := globs.take 11
noncomputable def fnL : List (Str × AV) := (globs.drop 11).take 23
noncomputable def setL : List (Str × AV) := (globs.drop 11).drop 23
noncomputable def bltV : AV → Value
  | .typ n => .type (typName n)
  | .bi n => .builtin (biName n)
  | _ => .none
noncomputable def freeB (x : Str) : Bool := !(startupNames.contains x) && !((looseW qV looseV).contains x) && !(((recsOf qV).map (·.name)).contains x) && !(((litsOf qV).map (·.1)).contains x) && !(((clssOf qV (looseW qV looseV)).map (·.name)).contains x)
theorem bltL_eq : bltL = ([("range", AV.typ 0), ("len", .bi 0), ("sum", .bi 1), ("enumerate", .typ 1), ("ord", .bi 2), ("chr", .bi 3), ("abs", .bi 4), ("divmod", .bi 5), ("isinstance", .bi 6), ("int", .typ 2), ("bytes", .typ 3)] : List (String × AV)).map fun p => (Str.ofString p.1, p.2) := by kernel_rfl
theorem bltL_free : bltL.all (fun p => freeB p.1) = true := by kernel_rfl
theorem blt_at : ∀ p ∈ bltL, bootBuiltins p.1 = some (bltV p.2) ∧ p.1 ≠ "__name__" ∧ (∀ (C : Cx), VR C [] p.2 (bltV p.2)) := by
  intro p hp
  rw [bltL_eq] at hp
  simp only [List.map_cons, List.map_nil, List.mem_cons, List.not_mem_nil, or_false] at hp
  rcases hp with rfl | rfl | rfl | rfl | rfl | rfl | rfl | rfl | rfl | rfl | rfl
  all_goals refine ⟨by kernel_rfl, fun h => ?_, fun C => rfl⟩
  all_goals exact absurd h (by decide)
theorem fnL_eq : fnL = (List.range 23).map (fun i => (match recs[i]? with | some d => d.name | none => dbgS, AV.fn i)) := by kernel_rfl
theorem setL_eq : setL = (List.range 5).map (fun i => (setName i, AV.set i)) := by kernel_rfl
theorem globs_split : globs = bltL ++ (fnL ++ setL) := by
  unfold bltL fnL setL
  rw [List.take_append_drop, List.take_append_drop]
theorem setEq (k : Nat) : setElemsH k = setElems k := by
  rcases k with _ | _ | _ | _ | _ | k <;> rfl
theorem contains_any (i : Int) : ∀ l : List Int, l.contains i = anyEq i l
  | [] => rfl
  | a :: l => by
    rw [List.contains_cons, contains_any i l]
    show (i == a || anyEq i l) = (a == i || anyEq i l)
    rw [Bool.beq_comm]
theorem sf_of {XP : (Str → Option Value) → Heap → Prop} {R : WRecords} {w : World} {s₀ s₁ : Shared} {mg mb : Str → Option Value} (G : Ground qV looseV R XP w s₀ mg mb s₁.heap) (Y : YPV w s₁.heap)
    {ℓ : Addr} {vs : List Value} {ns : List Int} {n : Nat} (hl : s₁.heap.get? ℓ = some (listO vs.toArray n)) (hi : IntsAre vs ns) (h63 : ns.length ≤ 63) :
    SF ⟨w, ns, s₁.heap, s₁, ℓ, defAt mg, setAt mg⟩ ∧ ∀ i, i < 23 → ∃ d, recs[i]? = some d ∧ mg d.name = some (.ref (defAt mg i)) := by
  have hd : ∀ i, i < 23 → ∃ d o pm code doc, recs[i]? = some d ∧ fnOf i = some ⟨d.name, d.params, d.body, d.scope⟩ ∧ mg d.name = some (.ref (defAt mg i)) ∧ s₁.heap.get? (defAt mg i) = some o ∧ o.data = .func (docDef d.name d.params d.body d.scope pm code doc) ∧ s₁.heap.CodeRec code d.name := by
    intro i hi
    obtain ⟨d, e, hm, hf⟩ := rec_at hi
    obtain ⟨a, o, pm, code, doc, h1, h2, h3, h4⟩ := G.T.fn d hm
    have : defAt mg i = a := by
      unfold defAt
      rw [e]; simp only
      rw [h1]
    rw [← this] at h1 h2
    exact ⟨d, o, pm, code, doc, e, hf, h1, h2, h3, h4⟩
  have hs : ∀ k, k < 5 → mg (setName k) = some (.ref (setAt mg k)) ∧ ∃ n, s₁.heap.SetOf (intKind pwH w) (setAt mg k) (fun i => anyEq i (setElems k)) n := by
    intro k hk
    obtain ⟨mg', a, n, h1, h2, h3⟩ := Y k hk
    have e : mg' = mg := h1.eq_nsMap.trans G.T.g.eq_nsMap.symm
    subst e
    have : setAt mg' k = a := by
      unfold setAt
      rw [h2]
    rw [this]
    exact ⟨h2, n, SetOf_congr h3 (fun i => by rw [setEq, contains_any]) rfl⟩
  refine ⟨⟨⟨mg, mb, G.T.g, G.T.b, fun x v hv => ?_⟩, G.T.nolimit, fun i hi => ?_, fun k hk => (hs k hk).2, vs, n, hl, hi, h63⟩, fun i hi => ?_⟩
  · have hm := look_mem hv
    rw [globs_split, List.mem_append, List.mem_append] at hm
    rcases hm with hm | hm | hm
    · obtain ⟨h1, h2, h3⟩ := blt_at _ hm
      have hf := List.all_eq_true.mp bltL_free _ hm
      unfold freeB at hf
      simp only [Bool.and_eq_true, Bool.not_eq_true', ← Bool.not_eq_true, List.contains_iff_mem] at hf
      obtain ⟨⟨⟨⟨f1, f2⟩, f3⟩, f4⟩, f5⟩ := hf
      exact ⟨bltV v, h3 _, .inr ⟨G.T.free x f1 f2 f3 f4 f5, (G.T.builtins x h2).trans h1⟩⟩
    · rw [fnL_eq] at hm
      obtain ⟨i, hi, e⟩ := List.mem_map.mp hm
      rw [List.mem_range] at hi
      obtain ⟨d, o, pm, code, doc, e1, _, h1, _⟩ := hd i hi
      rw [e1] at e
      obtain ⟨rfl, rfl⟩ := Prod.mk.inj e
      exact ⟨.ref (defAt mg i), rfl, .inl h1⟩
    · rw [setL_eq] at hm
      obtain ⟨i, hi, e⟩ := List.mem_map.mp hm
      rw [List.mem_range] at hi
      obtain ⟨rfl, rfl⟩ := Prod.mk.inj e
      exact ⟨.ref (setAt mg i), rfl, .inl (hs i hi).1⟩
  · obtain ⟨d, o, pm, code, doc, _, e2, _, h2, h3, h4⟩ := hd i hi
    exact ⟨_, o, pm, code, doc, e2, h2, h3, h4⟩
  · obtain ⟨d, _, _, _, _, e, _, h1, _⟩ := hd i hi
    exact ⟨d, e, h1⟩
theorem intsWell {P : Params} {h : Heap} : ∀ {ns : List Int} {vs : List Value}, WellAll P h vs (ns.map .int) → IntsAre vs ns
  | [], _, x => by cases x; exact .nil
  | n :: ns, _, x => by
    cases x with
    | cons a b =>
      cases a with
      | int i t => exact .cons _ _ (intsWell b)
theorem pre63 {args : List WData} (h : rW.toRowW.claim.pre args = true) : ∃ ns : List Int, args = [.list (ns.map .int)] ∧ ns.length ≤ 63 := by
  have h' : (WShape.hasAll [] args [.list .int] && rW.pre.holds [] { args := args }) = true := h
  rw [Bool.and_eq_true] at h'
  obtain ⟨h1, h2⟩ := h'
  cases args with
  | nil => cases h1
  | cons d r =>
    have h1' : (WShape.has [] d (.list .int) && WShape.hasAll [] r []) = true := h1
    rw [Bool.and_eq_true] at h1'
    cases r with
    | cons _ _ => exact absurd h1'.2 (by intro h; cases h)
    | nil =>
      obtain ⟨xs, rfl, hx⟩ := hasW_list h1'.1
      obtain ⟨ns, rfl⟩ := items_int hx
      refine ⟨ns, rfl, ?_⟩
      have hv : rW.pre.holds [] { args := [.list (ns.map .int)] } = (!(decide ((63 : Int) < ((ns.map WData.int).length : Nat)))) := by
        show (match (match (match some (WData.bool (decide ((63 : Int) < ((ns.map WData.int).length : Nat)))) with
          | some (.bool b) => some (WData.bool (!b))
          | _ => none) with
          | some (.bool false) => some (WData.bool false)
          | some (.bool true) => some (WData.bool true)
          | _ => none) with
          | some (.bool true) => true
          | _ => false) = _
        cases decide ((63 : Int) < ((ns.map WData.int).length : Nat)) <;> rfl
      rw [hv, List.length_map] at h2
      have := of_decide_eq_false (by simpa using h2 : decide ((63 : Int) < (ns.length : Nat)) = false)
      omega
end Mine
set_option maxRecDepth 100000
open PySem PySem.W PySem.Calls PyProof.Rows
namespace Mine
open MineH
theorem wellL : PySem.Challenge.rw_yf0003_01.wellSaid = true := by kernel_rfl
theorem rec22 : recs[22]? = some lawD := by kernel_rfl
theorem post_ok (args ds : List WData) : PySem.Challenge.rw_yf0003_01.row.toRowW.claim.post args (.bool true) ds = true := by kernel_rfl
theorem law_walk : WalkO qV looseV (fun _ _ => True) YPV PySem.Challenge.rw_yf0003_01.row.toRowW lawD [] fun f vs => PySem.call f vs := by
  intro w s₀ s₁ mg mb G Y a o pm cd doc dV kV ho hd hcd hD hmg hg args vals as hpre hlay hrd hwl hlo
  obtain ⟨ns, rfl, h63⟩ := pre63 hpre
  obtain ⟨v, vs', rfl, hw1, hw2⟩ := wellAll_cons_inv hwl
  cases hw2
  cases hw1 with
  | @list ℓ vs xs e hvs =>
    have hi := intsWell hvs
    obtain ⟨S, hf⟩ := sf_of G Y (n := 0) e hi h63
    obtain ⟨d, e1, e2⟩ := hf 22 (by decide)
    rw [rec22] at e1
    obtain rfl := Option.some.inj e1
    rw [hmg] at e2
    obtain ⟨σ', m⟩ := law_call S
    have ha : a = defAt mg 22 := by
      have := Option.some.inj e2
      exact Value.ref.inj this
    subst ha
    have hA : AOk 276 callerA := ⟨rfl, by decide +kernel, by decide +kernel⟩
    have hR : RR ⟨w, ns, s₁.heap, s₁, ℓ, defAt mg, setAt mg⟩ [] [] s₁.heap := ⟨rfl, List.nodup_nil, fun _ _ e => e, fun _ h => (nomatch h), fun k a ao e => by cases e⟩
    refine wpAny_mono (m callerA [] s₁.heap s₁.toks (fun v s' => GoodWG PySem.Challenge.rw_yf0003_01.row.toRowW.claim (classAt s₀.heap) (ExcName.means s₀.heap) [.list (ns.map .int)] s₁ (.ok (.ret v)) s') [.ref ℓ] hA hR ⟨.ref ℓ, [], rfl, rfl, rfl⟩ ?_) (fun _ _ h => h) (fun _ _ h => h.elim)
    intro ρ' h' tk' u K R q
    have hu : u = .bool true := q
    subst hu
    refine ⟨.inl ⟨.bool true, .bool true, [], rfl, fun _ => rfl, .bool true, post_ok _ _, fun _ => ⟨List.nodup_nil, fun _ h => (nomatch h)⟩⟩, OldK.of_keep fun b o e => K.keep b o (fun h => (nomatch h)) (fun h => h) e, rfl, ?_⟩
    exact AllBare.of_eq hg
theorem final_of (left : LeftO pwH qV looseV XtV YfS YaS 1000000) : PySem.Challenge.rw_yf0003_01.Holds :=
  holds_law wellL fun said => holds_open (r := PySem.Challenge.rw_yf0003_01.row) (XP := fun _ _ => True) (YP := YPV) left hYV hYkV (fun _ _ => trivial) (fun _ _ _ _ _ => trivial) defL (by kernel_rfl) (by rfl) (fun _ _ => recFacts_nil rfl) rfl said (by decide +kernel) ⟨rfl, rfl, rfl, rfl, rfl, by decide +kernel⟩ ⟨[.list [.int 3, .int 1]], by decide +kernel, by decide +kernel⟩ law_walk
end Mine
theorem PySem.Challenge.cw_yf0003_01_holds : PySem.Challenge.rw_yf0003_01.Holds := by
  exact Mine.final_of (MineH.leftOf (M := MineH.topM) MineH.runT (by decide))
