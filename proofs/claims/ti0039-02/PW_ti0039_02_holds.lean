import PyProof.Rows.All
import Wide.All
import OpenK.AllK
import Wide.FinOn
import PySem.Challenge.RW_ti0039_02
set_option Elab.async false
set_option autoImplicit false
set_option maxRecDepth 100000
set_option linter.all false
open PySem PySem.W PyProof.Rows

section
set_option maxHeartbeats 400000
open PySem
namespace Mine

/-- a value as data: `str s g`: with g its token is known to be a good one -/
inductive PV where
  | none
  | bool (b : Bool)
  | int (i : Int)
  | str (s : Str) (g : Bool)
  | bytes (b : List UInt8)
  | tup (l : List PV)
  | lst (l : List PV)
  | dct (l : List (Str × Str))
  | sset (l : List Str)
  | hdr (l : List (Str × Str))

theorem no_some {α : Type} {a : α} {C : Prop} (h : (none : Option α) = some a) : C := nomatch h
theorem no_tf {C : Prop} (h : true = false) : C := nomatch h
theorem no_ft {C : Prop} (h : false = true) : C := nomatch h
theorem some_C {α : Type} {a b : α} {C : α → Prop} (h : some a = some b) (k : C a) : C b := by cases h; exact k

theorem if_some {α : Type} {c : Prop} [Decidable c] {a r : α} (h : (if c then some a else none) = some r) : c ∧ a = r := by
  by_cases hc : c
  · rw [if_pos hc] at h; exact ⟨hc, Option.some.inj h⟩
  · rw [if_neg hc] at h; exact no_some h
theorem if_some2 {α : Type} {c : Prop} [Decidable c] {a : Option α} {r : α} (h : (if c then a else none) = some r) : c ∧ a = some r := by
  by_cases hc : c
  · rw [if_pos hc] at h; exact ⟨hc, h⟩
  · rw [if_neg hc] at h; exact no_some h
theorem if_none2 {α : Type} {c : Prop} [Decidable c] {a : Option α} {r : α} (h : (if c then none else a) = some r) : ¬ c ∧ a = some r := by
  by_cases hc : c
  · rw [if_pos hc] at h; exact no_some h
  · rw [if_neg hc] at h; exact ⟨hc, h⟩

noncomputable def lim : Nat := 100000

noncomputable def mkS (s : Str) : Option PV := if s.length ≤ lim then some (.str s false) else none
noncomputable def mkB (s : List UInt8) : Option PV := if s.length ≤ lim then some (.bytes s) else none
noncomputable def mkT (l : List PV) : Option PV := if l.length ≤ lim then some (.tup l) else none
noncomputable def mkL (l : List PV) : Option PV := if l.length ≤ lim then some (.lst l) else none
noncomputable def smallI (i : Int) : Bool := decide (i.natAbs < 2 ^ 62)
noncomputable def divI (i : Int) : Bool := decide (i ≠ 0) && decide (i.natAbs < 1073741824)

structure LEnv where
  vars : List (Str × PV)
  own : Option (Str × List PV) := none

inductive Fl where
  | next
  | ret (p : PV)

structure FnI where
  params : List Str
  body : List Stmt
  scope : Scope

structure GCtx where
  fns : List (Str × FnI)
  consts : List (Str × PV)
  owns : List Str
  hdr : Option Str
  more : Bool := true
  dicts : Bool := true

noncomputable def upd (x : Str) (p : PV) : List (Str × PV) → List (Str × PV)
  | [] => [(x, p)]
  | (y, q) :: r => if y == x then (x, p) :: r else (y, q) :: upd x p r

noncomputable def isOwn (ε : LEnv) (x : Str) : Bool := match ε.own with
  | some (y, _) => y == x
  | none => false

/-- a plain store -/
noncomputable def lc (k : Option NameKind) : Bool := k == some .local || k == some .cell
noncomputable def setV (sc : Scope) (ε : LEnv) (x : Str) (p : PV) : Option LEnv :=
  if !isOwn ε x && lc (sc.names.lookup x) then some { ε with vars := upd x p ε.vars } else none

noncomputable def constV : Const → Option PV
  | .none => some .none
  | .bool b => some (.bool b)
  | .int i => some (.int i)
  | .str s => if s.length ≤ lim then some (.str s true) else none
  | .bytes b => mkB b
  | _ => none

mutual
/-- Python's ==, where both sides are of one kind (or one is None) -/
noncomputable def eqP : PV → PV → Option Bool
  | .none, q => (match q with
    | .none => some true
    | .str _ _ => some false
    | _ => none)
  | .bool a, q => (match q with
    | .bool b => some (a == b)
    | _ => none)
  | .int a, q => (match q with
    | .int b => some (a == b)
    | _ => none)
  | .str a _, q => (match q with
    | .str b _ => some (a == b)
    | .none => some false
    | _ => none)
  | .tup a, q => (match q with
    | .tup b => eqPs a b
    | _ => none)
  | .lst a, q => (match q with
    | .lst b => eqPs a b
    | _ => none)
  | _, _ => none
noncomputable def eqPs : List PV → List PV → Option Bool
  | [], q => (match q with
    | [] => some true
    | _ :: _ => some false)
  | p :: r, q => (match q with
    | [] => some false
    | q :: t => (eqP p q).bind fun b => if b then eqPs r t else some false)
end

mutual
/-- shallow, and of true signs -/
noncomputable def okD : Nat → PV → Bool
  | _, .none => true
  | _, .bool _ => true
  | _, .int _ => true
  | _, .str s _ => PyData.strOk s
  | 0, _ => false
  | n + 1, .tup l => okDs n l
  | n + 1, .lst l => okDs n l
  | _, _ => false
noncomputable def okDs : Nat → List PV → Bool
  | _, [] => true
  | n, p :: r => okD n p && okDs n r
end

noncomputable def eqTop : PV → PV → Option Bool
  | .int a, .int b => some (a == b)
  | .bool a, .bool b => some (a == b)
  | .str a _, .str b _ => some (a == b)
  | .lst a, .lst b => if okD 8 (.lst a) && okD 8 (.lst b) then eqP (.lst a) (.lst b) else none
  | .tup a, .tup b => if okD 8 (.tup a) && okD 8 (.tup b) then eqP (.tup a) (.tup b) else none
  | _, _ => none

noncomputable def asStrs : List PV → Option (List Str)
  | [] => some []
  | .str s _ :: r => (asStrs r).map (s :: ·)
  | _ :: _ => none
noncomputable def asInts : List PV → Option (List Int)
  | [] => some []
  | .int s :: r => (asInts r).map (s :: ·)
  | _ :: _ => none
noncomputable def asPairs : List PV → Option (List (Str × Str))
  | [] => some []
  | .tup [.str k _, .str v _] :: r => (asPairs r).map ((k, v) :: ·)
  | _ :: _ => none

noncomputable def binV (op : Operator) (p q : PV) : Option PV := match op, p, q with
  | .Add, .int a, .int b => some (.int (a + b))
  | .Sub, .int a, .int b => some (.int (a - b))
  | .Mult, .int a, .int b => if smallI a && smallI b then some (.int (a * b)) else none
  | .FloorDiv, .int a, .int b => if divI b then some (.int (a.fdiv b)) else none
  | .Mod, .int a, .int b => if divI b then some (.int (a.fmod b)) else none
  | .Pow, .int a, .int b => if decide (0 ≤ b) && decide (b ≤ 64) && smallI a then some (.int (a ^ b.toNat)) else none
  | .BitXor, .int a, .int b => some (.int (Builtin.bitXor a b))
  | .Add, .str a _, .str b _ => mkS (a ++ b)
  | .Add, .bytes a, .bytes b => mkB (a ++ b)
  | .Add, .lst a, .lst b => mkL (a ++ b)
  | _, _, _ => none

noncomputable def augV (op : Operator) (p q : PV) : Option PV := match op, p with
  | .Add, .int _ => binV op p q
  | .Sub, .int _ => binV op p q
  | .Add, .str _ _ => binV op p q
  | _, _ => none

noncomputable def inV (p q : PV) : Option Bool := match p, q with
  | .str a _, .str b _ => some (!(Builtin.Str.occurrences b a 0 b.length 1).isEmpty)
  | .str a _, .lst l => (asStrs l).map fun ys => ys.any (· == a)
  | .str a _, .sset l => some (l.any (· == a))
  | _, _ => none

noncomputable def cmpV (op : CmpOp) (p q : PV) : Option Bool := match op with
  | .Eq => eqTop p q
  | .NotEq => (eqTop p q).map (!·)
  | .Lt => (match p, q with | .int a, .int b => some (decide (a < b)) | _, _ => none)
  | .LtE => (match p, q with | .int a, .int b => some (decide (a ≤ b)) | _, _ => none)
  | .Gt => (match p, q with | .int a, .int b => some (decide (a > b)) | _, _ => none)
  | .GtE => (match p, q with | .int a, .int b => some (decide (a ≥ b)) | _, _ => none)
  | .In => inV p q
  | .NotIn => (inV p q).map (!·)
  | _ => none

noncomputable def truthV : PV → Option Bool
  | .bool b => some b
  | .int i => some (i != 0)
  | .str s _ => some (s.length != 0)
  | _ => none

noncomputable def idxAt (n : Nat) (i : Int) : Option Nat := if smallI i then (if 0 ≤ i then (if i < n then some i.toNat else none) else if 0 ≤ i + n then some (i + n).toNat else none) else none

noncomputable def idxV (p q : PV) : Option PV := match p, q with
  | .str s _, .int i => (idxAt s.length i).bind fun k => (s.cps[k]?).map fun c => .str ⟨#[c]⟩ true
  | .lst l, .int i => (idxAt l.length i).bind fun k => l[k]?
  | .tup l, .int i => (idxAt l.length i).bind fun k => l[k]?
  | .dct l, .str k _ => (l.lookup k).map fun v => .str v false
  | _, _ => none

/-- the items that a slice picks -/
noncomputable def pickL {α : Type} (l : List α) (lo hi st : Option Int) : List α :=
  (sliceRange (sliceBounds lo hi st l.length).1 (sliceBounds lo hi st l.length).2.1 (sliceBounds lo hi st l.length).2.2).filterMap (l[·]?)

noncomputable def sliceV (p : PV) (lo hi st : Option Int) : Option PV := match p with
  | .str s _ => if st == none then some (.str (Txt.slice s lo hi) false) else none
  | .bytes b => if st == none then some (.bytes (pickL b lo hi none)) else none
  | .lst l => if st == some 0 then none else some (.lst (pickL l lo hi st))
  | _ => none

inductive BK where
  | len | sum | sorted | ord | chr | abs | int | divmod | range | zip | enumerate
  deriving DecidableEq
noncomputable def bkOf (x : Str) : Option BK :=
  ([("len", .len), ("sum", .sum), ("sorted", .sorted), ("ord", .ord), ("chr", .chr), ("abs", .abs), ("int", .int), ("divmod", .divmod), ("range", .range), ("zip", .zip), ("enumerate", .enumerate)] : List (Str × BK)).lookup x

inductive MK where
  | join | split | startswith | endswith | find | replace | lower | upper | index | get | keys | items | append
  deriving DecidableEq
noncomputable def mkOf (x : Str) : Option MK :=
  ([("join", .join), ("split", .split), ("startswith", .startswith), ("endswith", .endswith), ("find", .find), ("replace", .replace), ("lower", .lower), ("upper", .upper), ("index", .index), ("get", .get), ("keys", .keys), ("items", .items), ("append", .append)] : List (Str × MK)).lookup x

noncomputable def insI (x : Int) : List Int → List Int
  | [] => [x]
  | y :: r => if x ≤ y then x :: y :: r else y :: insI x r
noncomputable def sortI : List Int → List Int
  | [] => []
  | x :: r => insI x (sortI r)
noncomputable def leS (a b : Str) : Bool := !(decide (b.cps.toList < a.cps.toList))
noncomputable def insS (x : Str) : List Str → List Str
  | [] => [x]
  | y :: r => if leS x y then x :: y :: r else y :: insS x r
noncomputable def sortS : List Str → List Str
  | [] => []
  | x :: r => insS x (sortS r)
noncomputable def charsOf (s : Str) : List Str := s.cps.toList.map fun c => ⟨#[c]⟩
noncomputable def strsV (l : List Str) : List PV := l.map fun s => .str s false

noncomputable def sortedV (l : List PV) : Option PV := if decide (l.length < 64) then (match asInts l with
      | some ns => some (.lst ((sortI ns).map .int))
      | none => (asStrs l).map fun ss => .lst (strsV (sortS ss))) else none
noncomputable def builtin1 (k : BK) (p : PV) : Option PV := match k with
  | .len => (match p with
    | .lst l => some (.int l.length)
    | .tup l => some (.int l.length)
    | .str s _ => some (.int s.length)
    | .sset l => some (.int l.length)
    | _ => none)
  | .sum => (match p with
    | .lst l => (asInts l).bind fun ns => if ns.all smallI && decide (ns.length ≤ 1000) then some (.int ns.sum) else none
    | _ => none)
  | .sorted => (match p with
    | .lst l => sortedV l
    | .str s _ => if decide (s.length < 64) then some (.lst (strsV (sortS (charsOf s)))) else none
    | _ => none)
  | .ord => (match p with
    | .str s _ => if s.length == 1 then some (.int (s.cps.getD 0 0 : Nat)) else none
    | _ => none)
  | .chr => (match p with
    | .int i => if decide (0 ≤ i) && decide (i < 128) then some (.str ⟨#[i.toNat]⟩ false) else none
    | _ => none)
  | .abs => (match p with
    | .int i => some (.int (if i < 0 then -i else i))
    | _ => none)
  | .int => (match p with
    | .int i => some (.int i)
    | _ => none)
  | _ => none
noncomputable def divV (p q : PV) : Option PV := match p with
  | .int a => (match q with
    | .int b => if divI b then some (.tup [.int (a.fdiv b), .int (a.fmod b)]) else none
    | _ => none)
  | _ => none
noncomputable def builtinV (k : BK) (ps : List PV) : Option PV := match ps with
  | [] => none
  | [p] => builtin1 k p
  | [p, q] => (match k with
    | .divmod => divV p q
    | _ => none)
  | _ :: _ :: _ :: _ => none

noncomputable def asciiS (s : Str) : Bool := s.cps.toList.all fun c => decide (c < 128)
noncomputable def upC (c : Nat) : Nat := if 97 ≤ c ∧ c ≤ 122 then c - 32 else c
noncomputable def loC (c : Nat) : Nat := if 65 ≤ c ∧ c ≤ 90 then c + 32 else c
noncomputable def upS (s : Str) : Str := ⟨(s.cps.toList.map upC).toArray⟩
noncomputable def loS (s : Str) : Str := ⟨(s.cps.toList.map loC).toArray⟩

/-- letters and the like: no regular expression of Headers minds them -/
noncomputable def cleanS (s : Str) : Bool := s.cps.toList.all fun c => decide (32 ≤ c) && decide (c < 127)

noncomputable def findV (s w : Str) (i j : Int) : Int :=
  match Builtin.Str.occurrences s w i.toNat (min j.toNat s.length) 1 with
  | k :: _ => (k : Int)
  | [] => -1

noncomputable def str1 (ps : List PV) : Option Str := match ps with
  | [] => none
  | p :: r => (match p with
    | .str y _ => (match r with
      | [] => some y
      | _ :: _ => none)
    | _ => none)
noncomputable def lst1 (ps : List PV) : Option (List PV) := match ps with
  | [] => none
  | p :: r => (match p with
    | .lst y => (match r with
      | [] => some y
      | _ :: _ => none)
    | _ => none)
noncomputable def int2 (ps : List PV) : Option (Int × Int) := match ps with
  | [] => none
  | p :: r => (match p with
    | .int i => (match r with
      | [] => none
      | q :: r => (match q with
        | .int j => (match r with
          | [] => some (i, j)
          | _ :: _ => none)
        | _ => none))
    | _ => none)
noncomputable def find3 (s : Str) (ps : List PV) : Option PV := match ps with
  | [] => none
  | p :: r => (match p with
    | .str y _ => (int2 r).bind fun ij => if decide (0 ≤ ij.1) && decide (0 ≤ ij.2) && smallI ij.1 && smallI ij.2 then some (.int (findV s y ij.1 ij.2)) else none
    | _ => none)

noncomputable def methS (s : Str) (m : MK) (ps : List PV) : Option PV := match m with
  | .join => (lst1 ps).bind fun l => (asStrs l).bind fun ss => if JoinOk s ss then mkS (Txt.join s ss) else none
  | .startswith => (str1 ps).map fun y => .bool (Txt.startswith s y)
  | .endswith => (str1 ps).map fun y => .bool (Txt.endswith s y)
  | .find => find3 s ps
  | .lower => (match ps with
    | [] => if asciiS s then some (.str (loS s) false) else none
    | _ :: _ => none)
  | .upper => (match ps with
    | [] => if asciiS s then some (.str (upS s) false) else none
    | _ :: _ => none)
  | _ => none
noncomputable def methL (l : List PV) (m : MK) (ps : List PV) : Option PV := match m with
  | .index => (str1 ps).bind fun y => (asStrs l).bind fun ss => (ss.findIdx? (· == y)).map fun (i : Nat) => PV.int (i : Int)
  | _ => none
noncomputable def methH (l : List (Str × Str)) (m : MK) (ps : List PV) : Option PV := match m with
  | .get => (str1 ps).bind fun y => if asciiS y && cleanS y && l.all (fun kv => asciiS kv.1) then some (match l.find? (fun kv => loS kv.1 == loS y) with | some kv => .str kv.2 false | none => .none) else none
  | .keys => (match ps with
    | [] => if l.length ≤ lim then some (.lst (strsV (l.map (·.1)))) else none
    | _ :: _ => none)
  | .items => (match ps with
    | [] => some (.lst (l.map fun kv => .tup [.str kv.1 false, .str kv.2 false]))
    | _ :: _ => none)
  | _ => none
noncomputable def methV (p : PV) (m : MK) (ps : List PV) : Option PV := match p with
  | .str s _ => methS s m ps
  | .lst l => methL l m ps
  | .hdr l => methH l m ps
  | _ => none

noncomputable def itemsV : PV → Option (List PV)
  | .lst l => some l
  | .tup l => some l
  | .str s _ => if asciiS s then some (strsV (charsOf s)) else none
  | .bytes b => some (b.map fun c => .int c.toNat)
  | _ => none

structure Ev where
  E : Scope → LEnv → Expr → Option PV
  T : Scope → LEnv → Expr → Option Bool
  S : Scope → LEnv → List Stmt → Option (LEnv × Fl)
  F : Str → List PV → Option PV

noncomputable def glob (sc : Scope) (x : Str) : Bool := sc.names.lookup x == some .globalImplicit && !(x == ("__debug__" : Str))

noncomputable def one {α : Type} (l : List α) : Option α := match l with
  | [] => none
  | a :: r => (match r with
    | [] => some a
    | _ :: _ => none)
noncomputable def two {α : Type} (l : List α) : Option (α × α) := match l with
  | [] => none
  | a :: r => (one r).map fun b => (a, b)
noncomputable def nm (e : Expr) : Option Str := match e with
  | .Name x _ => some x
  | _ => none
noncomputable def names2 (es : List Expr) : Option (Str × Str) := (two es).bind fun ab => (nm ab.1).bind fun x => (nm ab.2).map fun y => (x, y)
noncomputable def unp (p : PV) : Option (PV × PV) := match p with
  | .tup l => two l
  | .lst l => two l
  | _ => none
noncomputable def set2 (sc : Scope) (ε : LEnv) (x y : Str) (p : PV) : Option LEnv := (unp p).bind fun pq => (setV sc ε x pq.1).bind fun ε => setV sc ε y pq.2
noncomputable def bindT (sc : Scope) (ε : LEnv) (e : Expr) (p : PV) : Option LEnv := match e with
  | .Name x _ => setV sc ε x p
  | .Tuple es _ _ => (names2 es).bind fun xy => set2 sc ε xy.1 xy.2 p
  | _ => none

noncomputable def relab (s outer : Scope) : Scope :=
  { s with names := s.names.map fun (n, k) => if (k == .free && outer.kind == .function && outer.names.lookup n == some .cell) then (n, .cell) else (n, k) }

section
variable (G : GCtx) (ev : Ev)

noncomputable def evs (sc : Scope) (ε : LEnv) : List Expr → Option (List PV)
  | [] => some []
  | e :: r => (ev.E sc ε e).bind fun p => (evs sc ε r).map (p :: ·)

noncomputable def isNm (x : Str) (e : Expr) : Bool := match e with
  | .Name y _ => x == y
  | _ => false
/-- an expression read at once: the owned list too -/
noncomputable def brw (sc : Scope) (ε : LEnv) (e : Expr) : Option PV := match ε.own with
  | some (y, l) => if isNm y e then some (.lst l) else ev.E sc ε e
  | none => ev.E sc ε e

noncomputable def smallP (p : PV) : Option (Option Int) := match p with
  | .int i => if smallI i then some (some i) else none
  | _ => none
noncomputable def part (sc : Scope) (ε : LEnv) (o : Option Expr) : Option (Option Int) := match o with
  | none => some none
  | some e => (ev.E sc ε e).bind smallP

noncomputable def callB (k : BK) (sc : Scope) (ε : LEnv) (args : List Expr) : Option PV := match args with
  | [] => none
  | a :: r => (match r with
    | [] => (brw ev sc ε a).bind fun p => builtinV k [p]
    | _ :: _ => (evs ev sc ε (a :: r)).bind fun ps => builtinV k ps)

noncomputable def rangeL (a b : Int) : List PV := (List.range (b - a).toNat).map fun i => .int (a + (i : Nat))
noncomputable def enumL : Nat → List PV → List PV
  | _, [] => []
  | i, p :: r => .tup [.int i, p] :: enumL (i + 1) r
noncomputable def zipL : List PV → List PV → List PV
  | p :: r, q :: t => .tup [p, q] :: zipL r t
  | _, _ => []

noncomputable def rangeB (ps : List PV) : Option (List PV) := match ps with
  | [] => none
  | p :: r => (match r with
    | [] => (match p with
      | .int b => if smallI b && decide (b ≤ 1000) then some (rangeL 0 b) else none
      | _ => none)
    | _ :: _ => (int2 ps).bind fun ij => if smallI ij.1 && smallI ij.2 && decide (ij.2 - ij.1 ≤ 1000) then some (rangeL ij.1 ij.2) else none)
noncomputable def asLst (p : PV) : Option (List PV) := match p with
  | .lst l => some l
  | _ => none
noncomputable def zipB (ps : List PV) : Option (List PV) := (two ps).bind fun ab => (asLst ab.1).bind fun l => (asLst ab.2).bind fun m => if l.length == m.length then some (zipL l m) else none
noncomputable def enumB (p : PV) : Option (List PV) := match p with
  | .lst l => some (enumL 0 l)
  | .str s _ => if asciiS s then some (enumL 0 (strsV (charsOf s))) else none
  | _ => none
noncomputable def iterB (k : BK) (ps : List PV) : Option (List PV) := match k with
  | .range => rangeB ps
  | .zip => zipB ps
  | .enumerate => (one ps).bind enumB
  | _ => none

/-- range, zip, enumerate: a builtin's name of this scope that no def of the text bears -/
noncomputable def isIt (k : BK) : Bool := match k with
  | .range => true
  | .zip => true
  | .enumerate => true
  | _ => false
noncomputable def iterName (sc : Scope) (e : Expr) : Option (BK × List Expr) := match e with
  | .Call f args kws _ => (match f with
    | .Name g _ => (match kws with
      | [] => if glob sc g && (G.fns.lookup g).isNone then (bkOf g).bind fun k => if isIt k then some (k, args) else none else none
      | _ :: _ => none)
    | _ => none)
  | _ => none

noncomputable def isPair (e : Expr) : Bool := match e with
  | .Tuple es _ _ => (names2 es).isSome
  | _ => false

noncomputable def iterV (sc : Scope) (ε : LEnv) (tgt e : Expr) : Option (List PV) := match iterName G sc e with
  | some ka => if (ka.1 == .range || isPair tgt) && decide (ka.2.length < 30) then (evs ev sc ε ka.2).bind fun ps => iterB ka.1 ps else none
  | none => (ev.E sc ε e).bind itemsV

noncomputable def compTest (sc : Scope) (ε : LEnv) (l : List Expr) : Option Bool := match l with
  | [] => some true
  | c :: r => (match r with
    | [] => ev.T sc ε c
    | _ :: _ => none)

noncomputable def compE (sc : Scope) (ε : LEnv) (tgt : Expr) (ifs : List Expr) (elt : Expr) : List PV → Option (List PV)
  | [] => some []
  | p :: r => (bindT sc ε tgt p).bind fun ε' => (compTest ev sc ε' ifs).bind fun b =>
      if b then (ev.E sc ε' elt).bind fun q => (compE sc ε tgt ifs elt r).map (q :: ·) else compE sc ε tgt ifs elt r

noncomputable def compEnv (s : Scope) (ε : LEnv) : LEnv := { vars := ε.vars.filter fun (y, _) => s.names.lookup y == some .free }
noncomputable def tgtNames (e : Expr) : List Str := match e with
  | .Name x _ => [x]
  | .Tuple es _ _ => (match names2 es with
    | some xy => [xy.1, xy.2]
    | none => [])
  | _ => []
/-- what the block of a comprehension must be -/
noncomputable def compOk (s sc : Scope) (tgt : Expr) : Bool := s.kind == .function && decide ((s.names.map (·.1)).Nodup) && s.names.all (fun (n, k) => k != .free || sc.names.lookup n == some .cell) &&
  (tgtNames tgt).all (fun x => s.names.lookup x == some .local || s.names.lookup x == some .cell)

noncomputable def dedup : List Str → List Str → List Str
  | acc, [] => acc
  | acc, x :: r => if acc.any (· == x) then dedup acc r else dedup (acc ++ [x]) r

noncomputable def dctPut (k v : Str) : List (Str × Str) → List (Str × Str)
  | [] => [(k, v)]
  | (x, y) :: r => if x == k then (x, v) :: r else (x, y) :: dctPut k v r

noncomputable def asStr (p : PV) : Option Str := match p with
  | .str x _ => some x
  | _ => none
noncomputable def dctE (sc : Scope) (ε : LEnv) (tgt k v : Expr) : List PV → List (Str × Str) → Option (List (Str × Str))
  | [], acc => some acc
  | p :: r, acc => (bindT sc ε tgt p).bind fun ε' => ((ev.E sc ε' k).bind asStr).bind fun x => ((ev.E sc ε' v).bind asStr).bind fun y => dctE sc ε tgt k v r (dctPut x y acc)

noncomputable def asBool (p : PV) : Option Bool := match p with
  | .bool b => some b
  | _ => none
noncomputable def allB (sc : Scope) (ε : LEnv) : List Expr → Option Bool
  | [] => none
  | e :: r => (match r with
    | [] => (ev.E sc ε e).bind asBool
    | _ :: _ => (ev.E sc ε e).bind fun p => (asBool p).bind fun b => if b then allB sc ε r else some false)

noncomputable def notSuper : Expr → Bool
  | .Call (.Name x _) [] [] _ => !(x == ("super" : Str))
  | _ => true

noncomputable def newH (p : PV) : Option PV := match p with
  | .lst l => (asPairs l).bind fun kvs => if kvs.all (fun kv => cleanS kv.1 && cleanS kv.2) then some (.hdr kvs) else none
  | _ => none
noncomputable def callH (sc : Scope) (ε : LEnv) (args : List Expr) : Option PV := match args with
  | [] => none
  | a :: r => (match r with
    | [] => (ev.E sc ε a).bind newH
    | _ :: _ => none)
noncomputable def callG (sc : Scope) (ε : LEnv) (g : Str) (args : List Expr) : Option PV := match G.fns.lookup g with
  | some _ => (evs ev sc ε args).bind fun ps => ev.F g ps
  | none => if G.hdr == some g then callH ev sc ε args else (bkOf g).bind fun k => callB ev k sc ε args
noncomputable def strConst (e : Expr) : Option Str := match e with
  | .Constant c _ _ => (match c with
    | .str z => some z
    | _ => none)
  | _ => none
noncomputable def replS (s : Str) (q : PV) (z : Str) : Option PV := match q with
  | .str y g => if g && y.length == 1 && z.length == 0 && decide (s.length ≤ lim) then mkS (Txt.replace s y z) else none
  | _ => none
noncomputable def replV (sc : Scope) (ε : LEnv) (p : PV) (args : List Expr) : Option PV := match p with
  | .str s _ => (match args with
    | [] => none
    | a :: r => (match r with
      | [] => none
      | c :: r => (match r with
        | [] => (strConst c).bind fun z => (ev.E sc ε a).bind fun q => replS s q z
        | _ :: _ => none)))
  | _ => none
noncomputable def callM (sc : Scope) (ε : LEnv) (o : Expr) (m : Str) (args : List Expr) : Option PV :=
  (ev.E sc ε o).bind fun p => (mkOf m).bind fun k => if k == .replace then replV ev sc ε p args else (evs ev sc ε args).bind fun ps => methV p k ps
noncomputable def callV (sc : Scope) (ε : LEnv) (f : Expr) (args : List Expr) (pos : Pos) : Option PV := if 30 ≤ args.length then none else match f with
  | .Name g _ => if glob sc g then callG G ev sc ε g args else none
  | .Attribute o m ap => if !(ap.endLine == pos.line && notSuper o) then none else callM ev sc ε o m args
  | _ => none

noncomputable def listCompV (sc : Scope) (ε : LEnv) (elt tgt iter : Expr) (ifs : List Expr) (s : Scope) : Option PV := if compOk s sc tgt then (iterV G ev sc ε tgt iter).bind fun ps => if decide (ps.length ≤ lim) then (compE ev (relab s sc) (compEnv s ε) tgt ifs elt ps).map .lst else none else none
noncomputable def setCompV (sc : Scope) (ε : LEnv) (elt tgt iter : Expr) (s : Scope) : Option PV := if G.more && compOk s sc tgt then (iterV G ev sc ε tgt iter).bind fun ps => if decide (ps.length ≤ 64) then (compE ev (relab s sc) (compEnv s ε) tgt [] elt ps).bind fun qs => (asStrs qs).map fun ss => .sset (dedup [] ss) else none else none
noncomputable def dictCompV (sc : Scope) (ε : LEnv) (k v tgt iter : Expr) (s : Scope) : Option PV := if G.dicts && compOk s sc tgt then (iterV G ev sc ε tgt iter).bind fun ps => if decide (ps.length ≤ 64) then (dctE ev (relab s sc) (compEnv s ε) tgt k v ps []).map .dct else none else none

noncomputable def negV (p : PV) : Option PV := match p with
  | .int i => some (.int (-i))
  | _ => none
noncomputable def nameV (sc : Scope) (ε : LEnv) (x : Str) : Option PV := if x == ("__debug__" : Str) then none else (match ε.vars.lookup x with
  | some p => some p
  | none => if glob sc x then G.consts.lookup x else none)
noncomputable def cmpE (sc : Scope) (ε : LEnv) (l : Expr) (ops : List CmpOp) (rs : List Expr) : Option Bool :=
  (one ops).bind fun op => (one rs).bind fun r => (ev.E sc ε l).bind fun p => (brw ev sc ε r).bind fun q => cmpV op p q
noncomputable def subE (sc : Scope) (ε : LEnv) (v i : Expr) : Option PV := match i with
  | .Slice lo hi st _ => (ev.E sc ε v).bind fun p => (part ev sc ε lo).bind fun l => (part ev sc ε hi).bind fun h => (part ev sc ε st).bind fun s => sliceV p l h s
  | i => (brw ev sc ε v).bind fun p => (ev.E sc ε i).bind fun q => idxV p q
noncomputable def gen1 (gs : List Comprehension) (k : Expr → Expr → List Expr → Option PV) : Option PV := (one gs).bind fun g => if g.is_async = 0 then k g.target g.iter g.ifs else none
noncomputable def stepE (sc : Scope) (ε : LEnv) (e : Expr) : Option PV := match e with
  | .Constant c _ _ => constV c
  | .Name x _ => nameV G sc ε x
  | .BinOp a op b _ => (ev.E sc ε a).bind fun p => (ev.E sc ε b).bind fun q => binV op p q
  | .UnaryOp op a _ => (match op with
    | .USub => (ev.E sc ε a).bind negV
    | _ => none)
  | .IfExp t a b _ => (ev.T sc ε t).bind fun c => if c then ev.E sc ε a else ev.E sc ε b
  | .Compare l ops rs _ => (cmpE ev sc ε l ops rs).map .bool
  | .BoolOp op es _ => (match op with
    | .And => (allB ev sc ε es).map .bool
    | _ => none)
  | .Subscript v i _ => subE ev sc ε v i
  | .List es _ => (evs ev sc ε es).bind mkL
  | .Tuple es _ _ => (evs ev sc ε es).bind mkT
  | .ListComp elt gs s _ => gen1 gs fun tgt iter ifs => listCompV G ev sc ε elt tgt iter ifs s
  | .SetComp elt gs s _ => gen1 gs fun tgt iter ifs => (match ifs with
    | [] => setCompV G ev sc ε elt tgt iter s
    | _ :: _ => none)
  | .DictComp k v gs s _ => gen1 gs fun tgt iter ifs => (match ifs with
    | [] => dictCompV G ev sc ε k v tgt iter s
    | _ :: _ => none)
  | .Call f args kws pos => (match kws with
    | [] => callV G ev sc ε f args pos
    | _ :: _ => none)
  | _ => none

noncomputable def stepT (sc : Scope) (ε : LEnv) (e : Expr) : Option Bool := match e with
  | .Compare l ops rs _ => cmpE ev sc ε l ops rs
  | .UnaryOp op x p => (match op with
    | .Not => (ev.T sc ε x).map (!·)
    | op => (ev.E sc ε (.UnaryOp op x p)).bind truthV)
  | .BoolOp .. => none
  | .IfExp .. => none
  | e => (ev.E sc ε e).bind truthV

noncomputable def thenF (r : LEnv × Fl) (k : LEnv → Option (LEnv × Fl)) : Option (LEnv × Fl) := match r.2 with
  | .next => k r.1
  | .ret _ => some r
noncomputable def whileL (sc : Scope) (t : Expr) (body : List Stmt) : Nat → LEnv → Option (LEnv × Fl)
  | 0, _ => none
  | k + 1, ε => (ev.T sc ε t).bind fun b => if b then (ev.S sc ε body).bind fun r => thenF r fun ε' => whileL sc t body k ε' else some (ε, .next)

noncomputable def forL (sc : Scope) (tgt : Expr) (body : List Stmt) : List PV → LEnv → Option (LEnv × Fl)
  | [], ε => some (ε, .next)
  | p :: ps, ε => (bindT sc ε tgt p).bind fun ε => (ev.S sc ε body).bind fun r => thenF r fun ε' => forL sc tgt body ps ε'

noncomputable def splitV (p q : PV) : Option (List PV) := match p with
  | .str s _ => (match q with
    | .str y _ => if y.length == 0 || decide ((Txt.split s y).length > lim) || decide (s.length > lim) then none else some (strsV (Txt.split s y))
    | _ => none)
  | _ => none
/-- what a name that is to be owned may be bound to -/
noncomputable def ownE (sc : Scope) (ε : LEnv) (e : Expr) : Option (List PV) := match e with
  | .List es _ => (match es with
    | [] => some []
    | _ :: _ => none)
  | .Call f args kws pos => (match f with
    | .Attribute o m ap => (match kws with
      | [] => if ap.endLine == pos.line && notSuper o && mkOf m == some .split then (one args).bind fun a => (ev.E sc ε o).bind fun p => (ev.E sc ε a).bind fun q => splitV p q else none
      | _ :: _ => none)
    | _ => none)
  | _ => none

noncomputable def isSplit (f : Expr) : Bool := match f with
  | .Attribute _ m _ => mkOf m == some .split
  | _ => false
noncomputable def ownForm (e : Expr) : Bool := match e with
  | .List es _ => es.isEmpty
  | .Call f args kws _ => kws.isEmpty && args.length == 1 && isSplit f
  | _ => false

noncomputable def putOwn (sc : Scope) (ε : LEnv) (x : Str) (l : List PV) : Option LEnv :=
  if ε.own.isNone && sc.names.lookup x == some .local && !(x == ("__debug__" : Str)) then some { vars := ε.vars.filter (fun (y, _) => !(y == x)), own := some (x, l) } else none

/-- the owned list becomes a plain one -/
noncomputable def thaw (ε : LEnv) : LEnv := match ε.own with
  | some (x, l) => { vars := upd x (.lst l) ε.vars, own := none }
  | none => ε

noncomputable def delAt (l : List PV) (i : Int) : Option (List PV) := (idxAt l.length i).map fun k => l.eraseIdx k

/-- no pair of constants whose stores the model leaves open -/
noncomputable def swapOk (e₁ e₂ : Expr) : Bool := !([e₁, e₂].all (constantsAlone 8)) || [e₁, e₂].all (foldedForSure 8)

noncomputable def asPair (e : Expr) : Option (Expr × Expr) := match e with
  | .Tuple es _ _ => two es
  | _ => none
noncomputable def assignP (sc : Scope) (ε : LEnv) (x y : Str) (e₁ e₂ : Expr) : Option LEnv :=
  if !swapOk e₁ e₂ then none else if G.owns.contains x && ownForm e₁ then
      (ownE ev sc ε e₁).bind fun l => (ev.E sc ε e₂).bind fun q => (setV sc ε y q).bind fun ε' => putOwn sc ε' x l
    else if G.owns.contains y && ownForm e₂ then
      (ev.E sc ε e₁).bind fun p => (ownE ev sc ε e₂).bind fun l => (setV sc ε x p).bind fun ε' => putOwn sc ε' y l
    else (ev.E sc ε e₁).bind fun p => (ev.E sc ε e₂).bind fun q => (setV sc ε x p).bind fun ε' => setV sc ε' y q
noncomputable def assign2 (sc : Scope) (ε : LEnv) (x y : Str) (v : Expr) : Option LEnv := if x == y then none else match asPair v with
  | some ab => assignP G ev sc ε x y ab.1 ab.2
  | none => (ev.E sc ε v).bind fun p => set2 sc ε x y p
noncomputable def assignV (sc : Scope) (ε : LEnv) (t v : Expr) : Option LEnv := match t with
  | .Name x _ => if G.owns.contains x && ownForm v then (ownE ev sc ε v).bind fun l => putOwn sc ε x l
      else (ev.E sc ε v).bind fun p => setV sc ε x p
  | .Tuple es _ _ => (names2 es).bind fun xy => assign2 G ev sc ε xy.1 xy.2 v
  | _ => none

noncomputable def augS (sc : Scope) (ε : LEnv) (t : Expr) (op : Operator) (e : Expr) : Option LEnv := match t with
  | .Name x _ => (ε.vars.lookup x).bind fun p => (ev.E sc ε e).bind fun q => (augV op p q).bind fun r => setV sc ε x r
  | _ => none
noncomputable def forS (sc : Scope) (ε : LEnv) (tgt iter : Expr) (body : List Stmt) : Option (LEnv × Fl) := match ε.own with
  | some yl => if isNm yl.1 iter then forL ev sc tgt body yl.2 (thaw ε) else (iterV G ev sc ε tgt iter).bind fun ps => forL ev sc tgt body ps ε
  | none => (iterV G ev sc ε tgt iter).bind fun ps => forL ev sc tgt body ps ε
noncomputable def retS (sc : Scope) (ε : LEnv) (e : Expr) : Option (LEnv × Fl) := match ε.own with
  | some yl => if isNm yl.1 e then some (thaw ε, .ret (.lst yl.2)) else (ev.E sc ε e).map fun p => (ε, .ret p)
  | none => (ev.E sc ε e).map fun p => (ε, .ret p)
noncomputable def appS (sc : Scope) (ε : LEnv) (e : Expr) : Option LEnv := match e with
  | .Call f args kws pos => (match f with
    | .Attribute o m ap => (match kws with
      | [] => if mkOf m == some .append && ap.endLine == pos.line then ε.own.bind fun yl => if isNm yl.1 o && decide (yl.2.length ≤ lim) then (one args).bind fun a => (ev.E sc ε a).map fun p => { ε with own := some (yl.1, yl.2 ++ [p]) } else none else none
      | _ :: _ => none)
    | _ => none)
  | _ => none
noncomputable def delV (ε : LEnv) (y : Str) (l : List PV) (q : PV) : Option LEnv := match q with
  | .int k => (delAt l k).map fun l' => { ε with own := some (y, l') }
  | _ => none
noncomputable def delS (sc : Scope) (ε : LEnv) (t : Expr) : Option LEnv := match t with
  | .Subscript v i _ => ε.own.bind fun yl => if isNm yl.1 v then (ev.E sc ε i).bind fun q => delV ε yl.1 yl.2 q else none
  | _ => none
noncomputable def stmtV (sc : Scope) (ε : LEnv) (s : Stmt) : Option (LEnv × Fl) := match s with
  | .Assign ts v _ => (one ts).bind fun t => (assignV G ev sc ε t v).map fun ε => (ε, .next)
  | .AugAssign t op e _ => (augS ev sc ε t op e).map fun ε => (ε, .next)
  | .If t a b _ => (ev.T sc ε t).bind fun c => ev.S sc ε (if c then a else b)
  | .While t body els _ => (match els with
    | [] => whileL ev sc t body 100 ε
    | _ :: _ => none)
  | .For tgt iter body els _ => (match els with
    | [] => forS G ev sc ε tgt iter body
    | _ :: _ => none)
  | .Return o _ => o.bind fun e => retS ev sc ε e
  | .Expr e _ => (appS ev sc ε e).map fun ε => (ε, .next)
  | .Delete ts _ => (one ts).bind fun t => (delS ev sc ε t).map fun ε => (ε, .next)
  | .Assert t _ _ => (ev.T sc ε t).bind fun c => if c then some (ε, .next) else none
  | _ => none

noncomputable def stepS (sc : Scope) (ε : LEnv) (ss : List Stmt) : Option (LEnv × Fl) := match ss with
  | [] => some (ε, .next)
  | s :: rest => (stmtV G ev sc ε s).bind fun r => thenF r fun ε' => ev.S sc ε' rest

noncomputable def stepF (x : Str) (ps : List PV) : Option PV := (G.fns.lookup x).bind fun fi =>
  if fi.params.length == ps.length then (ev.S fi.scope { vars := fi.params.zip ps } fi.body).map fun r => match r.2 with
    | .ret p => p
    | .next => .none
  else none

noncomputable def step : Ev := ⟨stepE G ev, stepT ev, stepS G ev, stepF G ev⟩
end

noncomputable def evN (G : GCtx) : Nat → Ev
  | 0 => ⟨fun _ _ _ => none, fun _ _ _ => none, fun _ _ _ => none, fun _ _ => none⟩
  | n + 1 => step G (evN G n)

/-- the defs of a text -/
noncomputable def fnsOf (p : Program) : List (Str × FnI) := p.main.body.filterMap fun s => match s with
  | .FunctionDef name args body _ _ _ scope _ _ _ => some (name, ⟨args.args.map (·.arg), body, scope⟩)
  | _ => none

end Mine
end

section
set_option maxHeartbeats 400000
open PySem PySem.Calls PyProof.Rows
namespace Mine

noncomputable def big : Nat := 1000000
abbrev seqO (c : String) (vs : List Value) (n : Nat) : Obj := { cls := .type c, dict := none, data := .seq vs.toArray n, slots := #[] }
abbrev Sub (h h' : Heap) : Prop := ∀ b o, h.get? b = some o → h'.get? b = some o

/-- what an object must be to be a dict of texts, a set of texts, a Headers: told by the object alone -/
structure ObjW where
  dct : Obj → List (Str × Str) → Prop
  sset : Obj → List Str → Prop
  inst : Obj → Addr → Prop
  dict : Obj → Addr → Prop
  base : Heap → Prop
  act : Prop
  cls : Addr
  fn : MK → Addr

section
variable (X : ObjW)

mutual
inductive RelV (N : Addr → Prop) (h : Heap) (tk : Nat) : PV → Value → Prop
  | none : RelV N h tk .none .none
  | bool (b : Bool) : RelV N h tk (.bool b) (.bool b)
  | int (i : Int) (t : Tok) : RelV N h tk (.int i) (.int i t)
  | str (s : Str) (g : Bool) (t : Tok) (hl : s.length ≤ big) (hg : g = true → 0 < t ∧ t < tk) : RelV N h tk (.str s g) (.str s t)
  | bytes (b : List UInt8) (t : Tok) (hl : b.length ≤ big) : RelV N h tk (.bytes b) (.bytes b.toArray t)
  | tup (ps : List PV) (a : Addr) (vs : List Value) (n : Nat) (hN : ¬ N a) (ho : h.get? a = some (seqO "tuple" vs n)) (hl : ps.length ≤ big) (hr : RelVs N h tk ps vs) : RelV N h tk (.tup ps) (.ref a)
  | lst (ps : List PV) (a : Addr) (vs : List Value) (n : Nat) (hN : ¬ N a) (ho : h.get? a = some (seqO "list" vs n)) (hl : ps.length ≤ big) (hr : RelVs N h tk ps vs) : RelV N h tk (.lst ps) (.ref a)
  | dct (l : List (Str × Str)) (a : Addr) (o : Obj) (hN : ¬ N a) (ho : h.get? a = some o) (hd : X.dct o l) : RelV N h tk (.dct l) (.ref a)
  | sset (l : List Str) (a : Addr) (o : Obj) (hN : ¬ N a) (ho : h.get? a = some o) (hd : X.sset o l) : RelV N h tk (.sset l) (.ref a)
  | hdr (l : List (Str × Str)) (x dx a : Addr) (ox od : Obj) (hN : ¬ N x) (hN' : ¬ N dx) (ho : h.get? x = some ox) (hi : X.inst ox dx) (ho' : h.get? dx = some od) (hi' : X.dict od a)
      (hr : RelV N h tk (.lst (l.map fun kv => .tup [.str kv.1 false, .str kv.2 false])) (.ref a)) : RelV N h tk (.hdr l) (.ref x)
inductive RelVs (N : Addr → Prop) (h : Heap) (tk : Nat) : List PV → List Value → Prop
  | nil : RelVs N h tk [] []
  | cons (p : PV) (v : Value) (ps : List PV) (vs : List Value) (h1 : RelV N h tk p v) (h2 : RelVs N h tk ps vs) : RelVs N h tk (p :: ps) (v :: vs)
end

variable {X} {N N' : Addr → Prop} {h h' : Heap} {tk tk' : Nat}

section
variable {C : Value → Prop} {v : Value}
theorem RelV.noneC (r : RelV X N h tk .none v) (k : C .none) : C v := by cases r; exact k
theorem RelV.boolC {b : Bool} (r : RelV X N h tk (.bool b) v) (k : C (.bool b)) : C v := by cases r; exact k
theorem RelV.intC {i : Int} (r : RelV X N h tk (.int i) v) (k : ∀ t, C (.int i t)) : C v := by cases r; exact k _
theorem RelV.strC {x : Str} {g : Bool} (r : RelV X N h tk (.str x g) v) (k : ∀ (t : Tok) (_ : x.length ≤ big) (_ : g = true → 0 < t ∧ t < tk), C (.str x t)) : C v := by cases r; exact k _ ‹_› ‹_›
theorem RelV.bytesC {x : List UInt8} (r : RelV X N h tk (.bytes x) v) (k : ∀ (t : Tok) (_ : x.length ≤ big), C (.bytes x.toArray t)) : C v := by cases r; exact k _ ‹_›
theorem RelV.tupC {l : List PV} (r : RelV X N h tk (.tup l) v) (k : ∀ (a : Addr) (vs : List Value) (n : Nat) (_ : ¬ N a) (_ : h.get? a = some (seqO "tuple" vs n)) (_ : l.length ≤ big) (_ : RelVs X N h tk l vs), C (.ref a)) : C v := by cases r with | tup _ a vs n h1 h2 h3 h4 => exact k a vs n h1 h2 h3 h4
theorem RelV.lstC {l : List PV} (r : RelV X N h tk (.lst l) v) (k : ∀ (a : Addr) (vs : List Value) (n : Nat) (_ : ¬ N a) (_ : h.get? a = some (seqO "list" vs n)) (_ : l.length ≤ big) (_ : RelVs X N h tk l vs), C (.ref a)) : C v := by cases r with | lst _ a vs n h1 h2 h3 h4 => exact k a vs n h1 h2 h3 h4
theorem RelV.dctC {l : List (Str × Str)} (r : RelV X N h tk (.dct l) v) (k : ∀ (a : Addr) (o : Obj) (_ : ¬ N a) (_ : h.get? a = some o) (_ : X.dct o l), C (.ref a)) : C v := by cases r with | dct _ a o h1 h2 h3 => exact k a o h1 h2 h3
theorem RelV.ssetC {l : List Str} (r : RelV X N h tk (.sset l) v) (k : ∀ (a : Addr) (o : Obj) (_ : ¬ N a) (_ : h.get? a = some o) (_ : X.sset o l), C (.ref a)) : C v := by cases r with | sset _ a o h1 h2 h3 => exact k a o h1 h2 h3
theorem RelV.hdrC {l : List (Str × Str)} (r : RelV X N h tk (.hdr l) v) (k : ∀ (x dx a : Addr) (ox od : Obj) (_ : ¬ N x) (_ : ¬ N dx) (_ : h.get? x = some ox) (_ : X.inst ox dx) (_ : h.get? dx = some od) (_ : X.dict od a) (_ : RelV X N h tk (.lst (l.map fun kv => .tup [.str kv.1 false, .str kv.2 false])) (.ref a)), C (.ref x)) : C v := by
  cases r with | hdr _ x dx a ox od h1 h2 h3 h4 h5 h6 h7 => exact k x dx a ox od h1 h2 h3 h4 h5 h6 h7
variable {D : List Value → Prop} {vs : List Value}
theorem RelVs.nilC (r : RelVs X N h tk [] vs) (k : D []) : D vs := by cases r; exact k
theorem RelVs.consC {p : PV} {ps : List PV} (r : RelVs X N h tk (p :: ps) vs) (k : ∀ (v : Value) (vs : List Value) (_ : RelV X N h tk p v) (_ : RelVs X N h tk ps vs), D (v :: vs)) : D vs := by cases r with | cons _ v _ vs h1 h2 => exact k v vs h1 h2
end

mutual
theorem RelV.tr (hk : ∀ b o, ¬ N b → h.get? b = some o → ¬ N' b ∧ h'.get? b = some o) (ht : tk ≤ tk') : ∀ {p : PV} {v : Value}, RelV X N h tk p v → RelV X N' h' tk' p v
  | _, _, .none => .none
  | _, _, .bool b => .bool b
  | _, _, .int i t => .int i t
  | _, _, .str s g t hl hg => .str s g t hl fun e => ⟨(hg e).1, Nat.lt_of_lt_of_le (hg e).2 ht⟩
  | _, _, .bytes b t hl => .bytes b t hl
  | _, _, .tup ps a vs n hN ho hl hr => .tup ps a vs n (hk a _ hN ho).1 (hk a _ hN ho).2 hl (RelVs.tr hk ht hr)
  | _, _, .lst ps a vs n hN ho hl hr => .lst ps a vs n (hk a _ hN ho).1 (hk a _ hN ho).2 hl (RelVs.tr hk ht hr)
  | _, _, .dct l a o hN ho hd => .dct l a o (hk a _ hN ho).1 (hk a _ hN ho).2 hd
  | _, _, .sset l a o hN ho hd => .sset l a o (hk a _ hN ho).1 (hk a _ hN ho).2 hd
  | _, _, .hdr l x dx a ox od hN hN' ho hi ho' hi' hr => .hdr l x dx a ox od (hk x _ hN ho).1 (hk dx _ hN' ho').1 (hk x _ hN ho).2 hi (hk dx _ hN' ho').2 hi' (RelV.tr hk ht hr)
theorem RelVs.tr (hk : ∀ b o, ¬ N b → h.get? b = some o → ¬ N' b ∧ h'.get? b = some o) (ht : tk ≤ tk') : ∀ {ps : List PV} {vs : List Value}, RelVs X N h tk ps vs → RelVs X N' h' tk' ps vs
  | _, _, .nil => .nil
  | _, _, .cons p v ps vs h1 h2 => .cons p v ps vs (RelV.tr hk ht h1) (RelVs.tr hk ht h2)
end

theorem RelV.keeps (hk : Sub h h') (ht : tk ≤ tk') {p : PV} {v : Value} (r : RelV X N h tk p v) : RelV X N h' tk' p v := r.tr (fun b o n e => ⟨n, hk b o e⟩) ht
theorem RelVs.keeps (hk : Sub h h') (ht : tk ≤ tk') {p : List PV} {v : List Value} (r : RelVs X N h tk p v) : RelVs X N h' tk' p v := r.tr (fun b o n e => ⟨n, hk b o e⟩) ht
theorem RelV.less (hn : ∀ b, N' b → N b) {p : PV} {v : Value} (r : RelV X N h tk p v) : RelV X N' h tk p v := r.tr (fun b _ n e => ⟨fun q => n (hn b q), e⟩) (Nat.le_refl _)
theorem RelVs.less (hn : ∀ b, N' b → N b) {p : List PV} {v : List Value} (r : RelVs X N h tk p v) : RelVs X N' h tk p v := r.tr (fun b _ n e => ⟨fun q => n (hn b q), e⟩) (Nat.le_refl _)
theorem RelVs.length {ps : List PV} {vs : List Value} : RelVs X N h tk ps vs → ps.length = vs.length
  | .nil => rfl
  | .cons _ _ _ _ _ r => by rw [List.length_cons, List.length_cons, RelVs.length r]
theorem RelVs.get {ps : List PV} {vs : List Value} (r : RelVs X N h tk ps vs) : ∀ {i : Nat} {p : PV}, ps[i]? = some p → ∃ v, vs[i]? = some v ∧ RelV X N h tk p v := by
  intro i
  induction i generalizing ps vs with
  | zero => intro p e; cases r with
    | nil => cases e
    | cons q v ps vs h1 h2 => cases e; exact ⟨v, rfl, h1⟩
  | succ i ih => intro p e; cases r with
    | nil => cases e
    | cons q v ps vs h1 h2 => exact ih h2 e
theorem RelVs.append {ps qs : List PV} {vs us : List Value} (r : RelVs X N h tk ps vs) (t : RelVs X N h tk qs us) : RelVs X N h tk (ps ++ qs) (vs ++ us) := by
  induction ps generalizing vs with
  | nil => cases r; exact t
  | cons p ps ih => cases r with | cons _ v _ vs h1 h2 => exact .cons _ _ _ _ h1 (ih h2)
theorem RelVs.snoc {ps : List PV} {vs : List Value} {p : PV} {v : Value} (r : RelVs X N h tk ps vs) (t : RelV X N h tk p v) : RelVs X N h tk (ps ++ [p]) (vs ++ [v]) := r.append (.cons _ _ _ _ t .nil)
theorem RelVs.drop {ps : List PV} {vs : List Value} (r : RelVs X N h tk ps vs) : ∀ k : Nat, RelVs X N h tk (ps.drop k) (vs.drop k) := by
  intro k
  induction k generalizing ps vs with
  | zero => exact r
  | succ k ih => cases r with
    | nil => exact .nil
    | cons p v ps vs h1 h2 => exact ih h2
theorem RelVs.eraseIdx {ps : List PV} {vs : List Value} (r : RelVs X N h tk ps vs) : ∀ k : Nat, RelVs X N h tk (ps.eraseIdx k) (vs.eraseIdx k) := by
  intro k
  induction k generalizing ps vs with
  | zero => cases r with
    | nil => exact .nil
    | cons p v ps vs h1 h2 => exact h2
  | succ k ih => cases r with
    | nil => exact .nil
    | cons p v ps vs h1 h2 => exact .cons _ _ _ _ h1 (ih h2)
theorem RelVs.pick {ps : List PV} {vs : List Value} (r : RelVs X N h tk ps vs) : ∀ l : List Nat, RelVs X N h tk (l.filterMap (ps[·]?)) (l.filterMap (vs[·]?))
  | [] => .nil
  | i :: l => by
    rw [List.filterMap_cons, List.filterMap_cons]
    cases e : ps[i]? with
    | none =>
      have : vs[i]? = none := by rw [List.getElem?_eq_none_iff] at e ⊢; rw [← r.length]; exact e
      rw [this]; exact RelVs.pick r l
    | some p =>
      obtain ⟨v, hv, hr⟩ := r.get e
      rw [hv]; exact .cons _ _ _ _ hr (RelVs.pick r l)

/-- where a name's value lies -/
noncomputable def VarAt (h : Heap) (env : Env) (x : Str) (v : Value) : Prop :=
  (env.kindOf x = some .local ∧ ∃ m, h.Ns env.locals m ∧ m x = some v) ∨ (env.kindOf x = some .cell ∧ ∃ c, env.cells.lookup x = some c ∧ h.IsCell c (some v))

inductive OwnAt (X : ObjW) (N W : Addr → Prop) (h : Heap) (tk : Nat) (env : Env) (x : Str) (l : List PV) : Prop
  | mk (k : env.kindOf x = some .local) (kd : (x == ("__debug__" : Str)) = false) (a : Addr) (n : Nat) (vs : List Value) (b1 : VarAt h env x (.ref a)) (b2 : W a) (b3 : h.get? a = some (seqO "list" vs n)) (b4 : l.length ≤ big) (b5 : RelVs X N h tk l vs) : OwnAt X N W h tk env x l

structure EnvAt (X : ObjW) (N W : Addr → Prop) (h : Heap) (tk : Nat) (env : Env) (ε : LEnv) : Prop where
  tp : 0 < tk
  wn : ∀ b, W b → N b
  kind : env.scope.kind = .function
  glo : env.globals = mainGlobals
  bui : env.builtins = builtinsNs
  ns : ∃ m, h.Ns env.locals m
  nL : W env.locals
  nC : ∀ x c, env.cells.lookup x = some c → N c
  cell : ∀ x, env.kindOf x = some .cell → ∃ c v, env.cells.lookup x = some c ∧ h.IsCell c v
  inj : ∀ x y c, env.cells.lookup x = some c → env.cells.lookup y = some c → x = y
  ck : ∀ x c, env.cells.lookup x = some c → env.kindOf x = some .cell
  nb : ∀ b, N b → (h.get? b).isSome = true
  vars : ∀ x p, ε.vars.lookup x = some p → ∃ v, VarAt h env x v ∧ RelV X N h tk p v
  own : ∀ x l, ε.own = some (x, l) → OwnAt X N W h tk env x l

/-- the letters of a function: its cells are its own -/
structure EnvS (X : ObjW) (N W : Addr → Prop) (h : Heap) (tk : Nat) (env : Env) (ε : LEnv) : Prop extends EnvAt X N W h tk env ε where
  oc : ∀ x c, env.cells.lookup x = some c → W c

theorem VarAt.keeps {env : Env} {x : Str} {v : Value} (hk : Sub h h') : VarAt h env x v → VarAt h' env x v
  | .inl ⟨k, m, hn, e⟩ => .inl ⟨k, m, hn.keeps hk, e⟩
  | .inr ⟨k, c, hc, e⟩ => .inr ⟨k, c, hc, e.keeps hk⟩

theorem EnvAt.keeps {W : Addr → Prop} {env : Env} {ε : LEnv} (hk : Sub h h') (ht : tk ≤ tk') (e : EnvAt X N W h tk env ε) : EnvAt X N W h' tk' env ε where
  tp := Nat.lt_of_lt_of_le e.tp ht
  wn := e.wn
  kind := e.kind
  glo := e.glo
  bui := e.bui
  ns := let ⟨m, q⟩ := e.ns; ⟨m, q.keeps hk⟩
  nL := e.nL
  nC := e.nC
  cell := fun x k => let ⟨c, v, a, b⟩ := e.cell x k; ⟨c, v, a, b.keeps hk⟩
  inj := e.inj
  ck := e.ck
  nb := fun b q => by obtain ⟨o, ho⟩ := Option.isSome_iff_exists.mp (e.nb b q); rw [hk b o ho]; rfl
  vars := fun x p q => let ⟨v, a, b⟩ := e.vars x p q; ⟨v, a.keeps hk, b.keeps hk ht⟩
  own := fun x l q => let ⟨k, kd, a, n, vs, b1, b2, b3, b4, b5⟩ := e.own x l q; ⟨k, kd, a, n, vs, b1.keeps hk, b2, hk _ _ b3, b4, b5.keeps hk ht⟩

theorem EnvS.keeps {W : Addr → Prop} {env : Env} {ε : LEnv} (hk : Sub h h') (ht : tk ≤ tk') (e : EnvS X N W h tk env ε) : EnvS X N W h' tk' env ε := ⟨e.toEnvAt.keeps hk ht, e.oc⟩

/-- the run from s to s' has made things and changed none -/
inductive KS (s s' : Shared) : Prop
  | mk (h' : Heap) (tk : Nat) (e : s' = { s with heap := h', toks := tk }) (a : Sub s.heap h') (b : s.toks ≤ tk) : KS s s'
theorem KS.refl (s : Shared) : KS s s := ⟨s.heap, s.toks, rfl, fun _ _ e => e, Nat.le_refl _⟩
theorem KS.trans {s₁ s₂ s₃ : Shared} : KS s₁ s₂ → KS s₂ s₃ → KS s₁ s₃ := by
  rintro ⟨h, t, rfl, a, b⟩ ⟨h', t', rfl, a', b'⟩
  exact ⟨h', t', rfl, fun c o e => a' c o (a c o e), Nat.le_trans b b'⟩
theorem KS.sub {s s' : Shared} : KS s s' → Sub s.heap s'.heap := by rintro ⟨_, _, rfl, a, _⟩; exact a
theorem KS.toks {s s' : Shared} : KS s s' → s.toks ≤ s'.toks := by rintro ⟨_, _, rfl, _, a⟩; exact a
theorem KS.tok {s : Shared} {k : Nat} (hk : s.toks ≤ k) : KS s { s with toks := k } := ⟨s.heap, k, rfl, fun _ _ e => e, hk⟩
theorem KS.push {s : Shared} (o : Obj) {k : Nat} (hk : s.toks ≤ k) : KS s { s with heap := s.heap.push o, toks := k } := ⟨_, k, rfl, fun _ _ e => Heap.get?_push_of_some o e, hk⟩

noncomputable def Room (n : Nat) (A : Around) : Prop := A.handled = none ∧ A.depth + n + 10 < recursionLimit ∧ A.units + 20 * n + 100 < cLine
theorem Room.less {n m : Nat} {A : Around} (r : Room n A) (h : m ≤ n) : Room m A := ⟨r.1, by have := r.2.1; omega, by have := r.2.2; omega⟩

theorem not_in_of_none {N : Addr → Prop} {h : Heap} {a : Addr} (nb : ∀ b, N b → (h.get? b).isSome = true) (e : h.get? a = none) : ¬ N a := fun q => by have := nb a q; rw [e] at this; cases this
theorem none_of_size {h : Heap} {a : Addr} (e : h.objs.size ≤ a) : h.get? a = none := by
  cases q : h.get? a with
  | none => rfl
  | some o => exact absurd (Heap.lt_size q) (Nat.not_lt.mpr e)
end
end Mine
end

section
set_option maxHeartbeats 400000
open PySem PySem.Calls PyProof.Rows
namespace Mine

noncomputable def bkVal : BK → Value
  | .len => .builtin "len" | .sum => .builtin "sum" | .sorted => .builtin "sorted" | .ord => .builtin "ord" | .chr => .builtin "chr"
  | .abs => .builtin "abs" | .divmod => .builtin "divmod" | .int => .type "int" | .range => .type "range" | .zip => .type "zip" | .enumerate => .type "enumerate"

noncomputable def fnOk (fi : FnI) : Bool := fi.scope.kind == .function && fi.scope.isCoroutine == false && fi.scope.isGenerator == false &&
  fi.params.all (fun x => fi.scope.names.lookup x == some .local || fi.scope.names.lookup x == some .cell) && decide (fi.params.Nodup) &&
  fi.scope.names.all (fun (n, k) => fi.scope.names.lookup n == some k) && decide ((fi.scope.names.map (·.1)).Nodup)

noncomputable def FnAt (h : Heap) (x : Str) (fi : FnI) (a : Addr) : Prop :=
  ∃ o args pm code doc, h.get? a = some o ∧ o.data = .func (docDef x ⟨[], args, none, [], [], none, []⟩ fi.body fi.scope pm code doc) ∧ h.CodeRec code x ∧ args.map (·.arg) = fi.params ∧ fnOk fi = true

structure Gnd (X : ObjW) (G : GCtx) (mg mb : Str → Option Value) (h : Heap) : Prop where
  base : X.base h
  cls : ∀ g, G.hdr = some g → mg g = some (.ref X.cls) ∧ X.act
  g : h.Ns mainGlobals mg
  b : h.Ns builtinsNs mb
  lim : h.NoLimit
  konst : ∀ x p, G.consts.lookup x = some p → ∃ v, mg x = some v ∧ ∀ N h tk, RelV X N h tk p v
  fns : ∀ x fi, G.fns.lookup x = some fi → ∃ a, mg x = some (.ref a) ∧ FnAt h x fi a
  bi : ∀ x k, bkOf x = some k → G.fns.lookup x = none → mg x = none ∧ mb x = some (bkVal k)

theorem FnAt.keeps {h h' : Heap} {x : Str} {fi : FnI} {a : Addr} (hk : Sub h h') : FnAt h x fi a → FnAt h' x fi a
  | ⟨o, args, pm, code, doc, h1, h2, h3, r⟩ => ⟨o, args, pm, code, doc, hk _ _ h1, h2, h3.keeps hk, r⟩

theorem Gnd.keeps {X : ObjW} {G : GCtx} {mg mb : Str → Option Value} {h h' : Heap} (hb : ∀ h h', X.base h → Sub h h' → X.base h') (hk : Sub h h') (g : Gnd X G mg mb h) : Gnd X G mg mb h' where
  base := hb h h' g.base hk
  cls := g.cls
  g := g.g.keeps hk
  b := g.b.keeps hk
  lim := g.lim.keeps hk
  konst := g.konst
  fns := fun x fi e => let ⟨a, p, q⟩ := g.fns x fi e; ⟨a, p, q.keeps hk⟩
  bi := g.bi

section
variable {X : ObjW} {N W : Addr → Prop} {M : Model} {A : Around} {E : Value → Shared → Prop} {s : Shared} {env : Env} {ε : LEnv}

theorem not_debug {x : Str} (h : ¬ (x == ("__debug__" : Str)) = true) : (x == ("__debug__" : Str)) = false := by
  cases q : (x == ("__debug__" : Str)) with
  | true => exact absurd q h
  | false => rfl

theorem load_var {x : Str} {v : Value} {Q : Value → Shared → Prop} (hk : env.scope.kind = .function) (hv : VarAt s.heap env x v) (h : Q v s) : wpAny M A (loadName env x) Q E s := by
  rcases hv with ⟨k, m, hn, e⟩ | ⟨k, c, hc, e⟩
  · exact wpAny_loadName_local hk k hn e h
  · exact wpAny_loadName_cell hk k hc e h

theorem lookup_upd (x y : Str) (p : PV) : ∀ l : List (Str × PV), (upd x p l).lookup y = if y = x then some p else l.lookup y
  | [] => by
    simp only [upd, List.lookup_cons, List.lookup_nil]
    by_cases h : y = x
    · subst h; simp
    · have : (y == x) = false := beq_eq_false_iff_ne.mpr h
      simp [this, h]
  | (z, q) :: r => by
    have ih := lookup_upd x y p r
    unfold upd
    by_cases hz : z = x
    · subst hz
      simp only [beq_self_eq_true, if_true, List.lookup_cons]
      by_cases h : y = z
      · subst h; simp
      · have : (y == z) = false := beq_eq_false_iff_ne.mpr h
        simp [this, h]
    · have hz' : (z == x) = false := beq_eq_false_iff_ne.mpr hz
      simp only [hz', Bool.false_eq_true, if_false, List.lookup_cons]
      by_cases h : y = z
      · subst h
        have : ¬ y = x := hz
        simp [this]
      · have : (y == z) = false := beq_eq_false_iff_ne.mpr h
        simp only [this]; exact ih

theorem isCell_ne {h : Heap} {a c : Addr} {v : Option Value} {m : Str → Option Value} (hn : h.Ns a m) (hc : h.IsCell c v) : c ≠ a := by
  rintro rfl
  obtain ⟨o, es, ep, ho, hd, _⟩ := hn
  obtain ⟨o', ho', hd'⟩ := hc
  rw [ho] at ho'; cases ho'; rw [hd] at hd'; cases hd'
theorem ns_uniq {h : Heap} {a : Addr} {m m' : Str → Option Value} (hn : h.Ns a m) (hn' : h.Ns a m') : m = m' := by
  obtain ⟨o, es, ep, ho, hd, _, hm⟩ := hn
  obtain ⟨o', es', ep', ho', hd', _, hm'⟩ := hn'
  rw [ho] at ho'; cases ho'; rw [hd] at hd'; cases hd'
  funext z; rw [← hm z, ← hm' z]
theorem ns_alive {h : Heap} {a : Addr} {m : Str → Option Value} (hn : h.Ns a m) : (h.get? a).isSome = true := by
  obtain ⟨o, _, _, ho, _⟩ := hn; rw [ho]; rfl
theorem cell_alive {h : Heap} {a : Addr} {v : Option Value} (hn : h.IsCell a v) : (h.get? a).isSome = true := by
  obtain ⟨o, ho, _⟩ := hn; rw [ho]; rfl
theorem same_alive {h h' : Heap} {a b : Addr} (hs : Heap.SameBut a h h') (ha : (h'.get? a).isSome = true) (hb : (h.get? b).isSome = true) : (h'.get? b).isSome = true := by
  by_cases z : b = a
  · rw [z]; exact ha
  · obtain ⟨o, ho⟩ := Option.isSome_iff_exists.mp hb
    rw [hs.extBut b o z ho]; rfl
theorem setV_iff {sc : Scope} {ε ε' : LEnv} {x : Str} {p : PV} (h : setV sc ε x p = some ε') : isOwn ε x = false ∧ (sc.names.lookup x = some .local ∨ sc.names.lookup x = some .cell) ∧ ε' = { ε with vars := upd x p ε.vars } := by
  obtain ⟨c, e⟩ := if_some h
  rw [Bool.and_eq_true] at c
  have c2 := (Bool.or_eq_true _ _).mp c.2
  exact ⟨(Bool.not_eq_true' _).mp c.1, c2.elim (fun z => .inl (beq_iff_eq.mp z)) (fun z => .inr (beq_iff_eq.mp z)), e.symm⟩
theorem setV_mk {sc : Scope} {ε : LEnv} {x : Str} {p : PV} (ho : isOwn ε x = false) (hk : sc.names.lookup x = some .local ∨ sc.names.lookup x = some .cell) : setV sc ε x p = some { ε with vars := upd x p ε.vars } := by
  unfold setV
  rw [ho]
  rcases hk with hk | hk <;> (rw [hk]; rfl)
theorem own_ne {ε : LEnv} {x y : Str} {l : List PV} (hl : ε.own = some (y, l)) (h : isOwn ε x = false) : y ≠ x := fun z => by
  unfold isOwn at h
  rw [hl, z] at h
  exact absurd (beq_self_eq_true x) (ne_true_of_eq_false h)
theorem list_ne_ns {h : Heap} {a b : Addr} {c : String} {vs : List Value} {n : Nat} {m : Str → Option Value} (hn : h.Ns a m) (ho' : h.get? b = some (seqO c vs n)) : b ≠ a := by
  rintro rfl
  obtain ⟨o, es, ep, ho, hd, _⟩ := hn
  rw [ho] at ho'; cases ho'; cases hd
theorem list_ne_cell {h : Heap} {a b : Addr} {c : String} {vs : List Value} {n : Nat} {v : Option Value} (hc : h.IsCell a v) (ho' : h.get? b = some (seqO c vs n)) : b ≠ a := by
  rintro rfl
  obtain ⟨o, ho, hd⟩ := hc
  rw [ho] at ho'; cases ho'; cases hd

noncomputable def FlowIs (X : ObjW) (N : Addr → Prop) (h : Heap) (tk : Nat) : Fl → Flow → Prop
  | .next, .next => True
  | .ret p, .ret v => RelV X N h tk p v
  | _, _ => False

/-- what holds behind statements: only W's places have changed -/
inductive Ends (X : ObjW) (N₀ W₀ : Addr → Prop) (s₀ : Shared) (env : Env) (ε : LEnv) (fl : Fl) (f : Flow) (s : Shared) : Prop
  | mk (N W : Addr → Prop) (h' : Heap) (tk : Nat) (a1 : ∀ b, N₀ b → ¬ W₀ b → N b) (a2 : ∀ b, N b → N₀ b ∨ s₀.heap.get? b = none) (a3 : ∀ b, W b → W₀ b ∨ s₀.heap.get? b = none) (a4 : s = { s₀ with heap := h', toks := tk }) (a5 : s₀.toks ≤ tk)
    (a6 : ∀ b o, ¬ W₀ b → s₀.heap.get? b = some o → h'.get? b = some o) (a7 : ∀ b, (s₀.heap.get? b).isSome = true → (h'.get? b).isSome = true) (a8 : EnvS X N W h' tk env ε) (a9 : FlowIs X N h' tk fl f) : Ends X N₀ W₀ s₀ env ε fl f s

theorem store_var {x : Str} {v : Value} {p : PV} {ε' : LEnv} {Q : Unit → Shared → Prop} (e : EnvAt X N W s.heap s.toks env ε) (hr : RelV X N s.heap s.toks p v)
    (hpl : ∀ c, env.kindOf x = some .cell → env.cells.lookup x = some c → W c) (hs : setV env.scope ε x p = some ε') (h : ∀ h' tk, s.toks ≤ tk → (∀ b o, ¬ W b → s.heap.get? b = some o → h'.get? b = some o) → (∀ b, (s.heap.get? b).isSome = true → (h'.get? b).isSome = true) → EnvAt X N W h' tk env ε' → Q () { s with heap := h', toks := tk }) : wpAny M A (storeName env x v) Q E s := by
  obtain ⟨hown, hkk, rfl⟩ := setV_iff hs
  have fin : ∀ h' tk, s.toks ≤ tk → (∀ b o, ¬ W b → s.heap.get? b = some o → h'.get? b = some o) → (∃ m, h'.Ns env.locals m) → (∀ y c, env.kindOf y = some .cell → env.cells.lookup y = some c → ∃ v, h'.IsCell c v) →
      (∀ b, N b → (h'.get? b).isSome = true) → VarAt h' env x v → (∀ y u, y ≠ x → VarAt s.heap env y u → VarAt h' env y u) → (∀ b c vs n, s.heap.get? b = some (seqO c vs n) → h'.get? b = some (seqO c vs n)) →
      EnvAt X N W h' tk env { ε with vars := upd x p ε.vars } := by
    intro h' tk ht hk hn hcl hnb hx hy hsq
    have tr : ∀ {q : PV} {u : Value}, RelV X N s.heap s.toks q u → RelV X N h' tk q u := fun r => r.tr (fun b o n q => ⟨n, hk b o (fun z => n (e.wn b z)) q⟩) ht
    have trs : ∀ {q : List PV} {u : List Value}, RelVs X N s.heap s.toks q u → RelVs X N h' tk q u := fun r => r.tr (fun b o n q => ⟨n, hk b o (fun z => n (e.wn b z)) q⟩) ht
    refine ⟨Nat.lt_of_lt_of_le e.tp ht, e.wn, e.kind, e.glo, e.bui, hn, e.nL, e.nC, fun y ky => ?_, e.inj, e.ck, hnb, fun y q hq => ?_, fun y l hl => ?_⟩
    · obtain ⟨c, u, hc, _⟩ := e.cell y ky
      obtain ⟨u', hu'⟩ := hcl y c ky hc
      exact ⟨c, u', hc, hu'⟩
    · rw [lookup_upd] at hq
      by_cases hyx : y = x
      · subst hyx
        rw [if_pos rfl] at hq
        cases hq
        exact ⟨v, hx, tr hr⟩
      · rw [if_neg hyx] at hq
        obtain ⟨u, h1, h2⟩ := e.vars y q hq
        exact ⟨u, hy y u hyx h1, tr h2⟩
    · obtain ⟨k, kd, a, n, vs, b1, b2, b3, b4, b5⟩ := e.own y l hl
      have hyx : y ≠ x := own_ne hl hown
      exact ⟨k, kd, a, n, vs, hy y _ hyx b1, b2, hsq _ _ _ _ b3, b4, trs b5⟩
  obtain ⟨m, hn⟩ := e.ns
  rcases hkk with hk | hk
  · refine wpAny_storeName_local hk hn (fun h' hn' hs' => h _ _ (Nat.le_succ _) ?_ ?_ ?_) (by rw [e.kind]; rfl)
    · exact fun b o n q => hs'.extBut b o (fun z => n (z ▸ e.nL)) q
    · exact fun b hb => same_alive hs' (ns_alive hn') hb
    have hne : ∀ b o, b ≠ env.locals → s.heap.get? b = some o → h'.get? b = some o := fun b o hb e => hs'.extBut b o hb e
    refine fin h' _ (Nat.le_succ _) (fun b o n q => hne b o (fun z => n (z ▸ e.nL)) q) ⟨_, hn'⟩ (fun y c ky hc => ?_) (fun b hb => ?_) (.inl ⟨hk, _, hn', by simp⟩) (fun y u hyx hv => ?_) (fun b c vs n q => hne b _ (list_ne_ns hn q) q)
    · obtain ⟨c', u, hc', hcell⟩ := e.cell y ky
      rw [hc] at hc'; cases hc'
      exact ⟨u, hcell.sameBut hs' (isCell_ne hn hcell)⟩
    · exact same_alive hs' (ns_alive hn') (e.nb b hb)
    · rcases hv with ⟨k, m', hn'', q⟩ | ⟨k, c, hc, q⟩
      · refine .inl ⟨k, _, hn', ?_⟩
        rw [if_neg hyx]
        rw [ns_uniq hn hn'']; exact q
      · exact .inr ⟨k, c, hc, q.sameBut hs' (isCell_ne hn q)⟩
  · obtain ⟨c, u₀, hc, hcell⟩ := e.cell x hk
    refine wpAny_storeName_cell e.kind hk hc hcell fun h' hc' hs' => h _ s.toks (Nat.le_refl _) ?_ ?_ ?_
    · exact fun b o n q => hs'.extBut b o (fun z => n (z ▸ hpl c hk hc)) q
    · exact fun b hb => same_alive hs' (cell_alive hc') hb
    have hne : ∀ b o, b ≠ c → s.heap.get? b = some o → h'.get? b = some o := fun b o hb e => hs'.extBut b o hb e
    refine fin h' _ (Nat.le_refl _) (fun b o n q => hne b o (fun z => n (z ▸ hpl c hk hc)) q) ⟨m, hn.sameBut hs' (Ne.symm (isCell_ne hn hcell))⟩ (fun y c' ky hc' => ?_) (fun b hb => ?_) (.inr ⟨hk, c, hc, hc'⟩) (fun y u hyx hv => ?_) (fun b c' vs n q => hne b _ (list_ne_cell hcell q) q)
    · by_cases z : c' = c
      · subst z; exact ⟨_, by assumption⟩
      · obtain ⟨c'', u, h1, h2⟩ := e.cell y ky
        rw [hc'] at h1; cases h1
        exact ⟨u, h2.sameBut hs' z⟩
    · exact same_alive hs' (cell_alive hc') (e.nb b hb)
    · rcases hv with ⟨k, m', hn'', q⟩ | ⟨k, c', hc'', q⟩
      · exact .inl ⟨k, m', hn''.sameBut hs' (Ne.symm (isCell_ne hn'' hcell)), q⟩
      · refine .inr ⟨k, c', hc'', q.sameBut hs' fun z => hyx ?_⟩
        subst z
        exact e.inj y x _ hc'' hc

theorem Ends.one {ε' : LEnv} {h' : Heap} {tk : Nat} (ht : s.toks ≤ tk) (hk : ∀ b o, ¬ W b → s.heap.get? b = some o → h'.get? b = some o) (ha : ∀ b, (s.heap.get? b).isSome = true → (h'.get? b).isSome = true) (e : EnvS X N W h' tk env ε') : Ends X N W s env ε' .next .next { s with heap := h', toks := tk } :=
  ⟨N, W, h', tk, fun _ q _ => q, fun _ q => .inl q, fun _ q => .inl q, rfl, ht, hk, ha, e, trivial⟩

/-- what was told of a value still holds -/
theorem Ends.rel {N' : Addr → Prop} {h' : Heap} (hw : ∀ b, W b → N b) (h2 : ∀ b, N' b → N b ∨ s.heap.get? b = none) (hk : ∀ b o, ¬ W b → s.heap.get? b = some o → h'.get? b = some o) :
    ∀ b o, ¬ N b → s.heap.get? b = some o → ¬ N' b ∧ h'.get? b = some o := by
  intro b o n q
  refine ⟨fun z => ?_, hk b o (fun z => n (hw b z)) q⟩
  rcases h2 b z with y | y
  · exact n y
  · rw [q] at y; cases y

theorem Ends.then {ε₂ : LEnv} {fl : Fl} {f : Flow} {s₃ : Shared} {N' W' : Addr → Prop} {h' : Heap} {tk : Nat} (nb : ∀ b, N b → (s.heap.get? b).isSome = true) (h1 : ∀ b, N b → ¬ W b → N' b) (h2 : ∀ b, N' b → N b ∨ s.heap.get? b = none) (h3 : ∀ b, W' b → W b ∨ s.heap.get? b = none) (ht : s.toks ≤ tk)
    (hk : ∀ b o, ¬ W b → s.heap.get? b = some o → h'.get? b = some o) (ha : ∀ b, (s.heap.get? b).isSome = true → (h'.get? b).isSome = true) (k : Ends X N' W' { s with heap := h', toks := tk } env ε₂ fl f s₃) : Ends X N W s env ε₂ fl f s₃ := by
  obtain ⟨N₂, W₂, h₂, t₂, a1, a2, a3, rfl, a5, a6, aa, a7, a8⟩ := k
  have none_back : ∀ b, h'.get? b = none → s.heap.get? b = none := fun b q => by
    cases z : s.heap.get? b with
    | none => rfl
    | some o => have := ha b (by rw [z]; rfl); rw [q] at this; cases this
  refine ⟨N₂, W₂, h₂, t₂, fun b q n => a1 b (h1 b q n) (fun z => ?_), fun b q => ?_, fun b q => ?_, rfl, Nat.le_trans ht a5, fun b o n q => ?_, fun b q => aa b (ha b q), a7, a8⟩
  · rcases h3 b z with z | z
    · exact n z
    · have := nb b q; rw [z] at this; cases this
  · rcases a2 b q with q | q
    · exact h2 b q
    · exact .inr (none_back b q)
  · rcases a3 b q with q | q
    · exact h3 b q
    · exact .inr (none_back b q)
  · refine a6 b o (fun z => ?_) (hk b o n q)
    rcases h3 b z with z | z
    · exact n z
    · rw [q] at z; cases z

theorem Ends.trans {ε₁ ε₂ : LEnv} {fl : Fl} {f : Flow} {s₂ s₃ : Shared} (hw : ∀ b, W b → N b) (nb : ∀ b, N b → (s.heap.get? b).isSome = true) (a : Ends X N W s env ε₁ .next .next s₂)
    (k : ∀ N' W', (∀ b, N b → ¬ W b → N' b) → (∀ b o, ¬ N b → s.heap.get? b = some o → ¬ N' b ∧ s₂.heap.get? b = some o) → s.toks ≤ s₂.toks → (∀ b, W' b → W b ∨ s.heap.get? b = none) → (∀ b o, ¬ W b → s.heap.get? b = some o → s₂.heap.get? b = some o) → EnvS X N' W' s₂.heap s₂.toks env ε₁ → Ends X N' W' s₂ env ε₂ fl f s₃) : Ends X N W s env ε₂ fl f s₃ := by
  obtain ⟨N', W', h', tk, h1, h2, h3, rfl, ht, hk, ha, e, _⟩ := a
  exact Ends.then nb h1 h2 h3 ht hk ha (k N' W' h1 (Ends.rel hw h2 hk) ht h3 hk e)

/-- from a state that has made things only -/
theorem Ends.from {ε₂ : LEnv} {fl : Fl} {f : Flow} {s₁ s₃ : Shared} (nb : ∀ b, N b → (s.heap.get? b).isSome = true) (k : KS s s₁) (h : Ends X N W s₁ env ε₂ fl f s₃) : Ends X N W s env ε₂ fl f s₃ := by
  obtain ⟨h', tk, rfl, hs, ht⟩ := k
  exact Ends.then nb (fun _ q _ => q) (fun _ q => .inl q) (fun _ q => .inl q) ht (fun b o _ q => hs b o q) (fun b q => by
    obtain ⟨o, ho⟩ := Option.isSome_iff_exists.mp q
    rw [hs b o ho]; rfl) h

/-- the same letters at another heap -/
theorem EnvAt.shift {N' : Addr → Prop} {h h' : Heap} {tk tk' : Nat} (e : EnvAt X N W h tk env ε) (ht : tk ≤ tk') (hw : ∀ b o, W b → h.get? b = some o → h'.get? b = some o) (hc : ∀ x c o, env.cells.lookup x = some c → h.get? c = some o → h'.get? c = some o) (nC : ∀ x c, env.cells.lookup x = some c → N' c) (hr : ∀ b o, ¬ N b → h.get? b = some o → ¬ N' b ∧ h'.get? b = some o)
    (wn : ∀ b, W b → N' b) (nb : ∀ b, N' b → (h'.get? b).isSome = true) : EnvAt X N' W h' tk' env ε where
  tp := Nat.lt_of_lt_of_le e.tp ht
  wn := wn
  kind := e.kind
  glo := e.glo
  bui := e.bui
  ns := let ⟨m, o, es, ep, ho, r⟩ := e.ns; ⟨m, o, es, ep, hw _ o e.nL ho, r⟩
  nL := e.nL
  nC := nC
  cell := fun x k => let ⟨c, v, a, o, ho, r⟩ := e.cell x k; ⟨c, v, a, o, hc x c o a ho, r⟩
  inj := e.inj
  ck := e.ck
  nb := nb
  vars := fun x p q => by
    obtain ⟨v, a, b⟩ := e.vars x p q
    refine ⟨v, ?_, b.tr hr ht⟩
    rcases a with ⟨k, m, ⟨o, es, ep, ho, r⟩, z⟩ | ⟨k, c, hcc, o, ho, z⟩
    · exact .inl ⟨k, m, ⟨o, es, ep, hw _ o e.nL ho, r⟩, z⟩
    · exact .inr ⟨k, c, hcc, o, hc x c o hcc ho, z⟩
  own := fun x l q => by
    obtain ⟨k, kd, a, n, vs, b1, b2, b3, b4, b5⟩ := e.own x l q
    refine ⟨k, kd, a, n, vs, ?_, b2, hw _ _ b2 b3, b4, b5.tr hr ht⟩
    rcases b1 with ⟨k, m, ⟨o, es, ep, ho, r⟩, z⟩ | ⟨k, c, hcc, o, ho, z⟩
    · exact .inl ⟨k, m, ⟨o, es, ep, hw _ o e.nL ho, r⟩, z⟩
    · exact .inr ⟨k, c, hcc, o, hc x c o hcc ho, z⟩
end
end Mine
end

section
set_option maxHeartbeats 400000
open PySem PySem.Calls PyProof.Rows
namespace Mine

abbrev Res (X : ObjW) (N : Addr → Prop) (s : Shared) (p : PV) : Value → Shared → Prop := fun v s' => KS s s' ∧ RelV X N s'.heap s'.toks p v
abbrev ResB (s : Shared) (b : Bool) : Bool → Shared → Prop := fun c s' => KS s s' ∧ c = b

section
variable {X : ObjW} {N : Addr → Prop} {prog : Program} {w : World} {A : Around} {E : Value → Shared → Prop} {s : Shared}

/-- tokens only grow -/
theorem wp_toks_here {M : Model} {α : Type} {t : Sem α} {Q : α → Shared → Prop} (h : wpAny M A t (fun a s' => s.toks ≤ s'.toks → Q a s') E s) : wpAny M A t Q E s :=
  wpAny_with_toks (Nat.le_refl _) (wpAny_mono h (fun _ _ x => x) fun _ _ x _ => x)

theorem smallI_lt {i : Int} (h : smallI i = true) : i.natAbs < 2 ^ 62 := of_decide_eq_true h
theorem divI_ne {i : Int} (h : divI i = true) : i ≠ 0 ∧ i.natAbs < 1073741824 := by
  unfold divI at h
  rw [Bool.and_eq_true] at h
  exact ⟨of_decide_eq_true h.1, of_decide_eq_true h.2⟩
theorem big_line : big ≤ sizeLine := by rw [sizeLine_eq]; decide
theorem lim_big : lim ≤ big := by decide
theorem mkS_some {x : Str} {p : PV} (h : mkS x = some p) : p = .str x false ∧ x.length ≤ lim := by
  unfold mkS at h
  split at h
  · cases h; exact ⟨rfl, by assumption⟩
  · cases h
theorem mkB_some {x : List UInt8} {p : PV} (h : mkB x = some p) : p = .bytes x ∧ x.length ≤ lim := by
  unfold mkB at h
  split at h
  · cases h; exact ⟨rfl, by assumption⟩
  · cases h
theorem mkL_some {x : List PV} {p : PV} (h : mkL x = some p) : p = .lst x ∧ x.length ≤ lim := by
  unfold mkL at h
  split at h
  · cases h; exact ⟨rfl, by assumption⟩
  · cases h

theorem KS.one (s : Shared) : KS s { s with toks := s.toks + 1 } := KS.tok (Nat.le_succ _)

/-- a made list -/
theorem RelV.newList {s : Shared} {ps : List PV} {vs : List Value} (nb : ∀ b, N b → (s.heap.get? b).isSome = true) (hl : ps.length ≤ big) (r : RelVs X N s.heap s.toks ps vs) {o : Obj} (ho : o = seqO "list" vs 0) {tk : Nat} (ht : s.toks ≤ tk) :
    RelV X N (s.heap.push o) tk (.lst ps) (.ref s.heap.objs.size) := by
  subst ho
  exact .lst ps _ vs 0 (not_in_of_none nb (none_of_size (Nat.le_refl _))) (Heap.get?_push_size _ rfl) hl (r.keeps (fun _ _ e => Heap.get?_push_of_some _ e) ht)
theorem RelV.newTuple {s : Shared} {ps : List PV} {vs : List Value} (nb : ∀ b, N b → (s.heap.get? b).isSome = true) (hl : ps.length ≤ big) (r : RelVs X N s.heap s.toks ps vs) {o : Obj} (ho : o = seqO "tuple" vs 0) {tk : Nat} (ht : s.toks ≤ tk) :
    RelV X N (s.heap.push o) tk (.tup ps) (.ref s.heap.objs.size) := by
  subst ho
  exact .tup ps _ vs 0 (not_in_of_none nb (none_of_size (Nat.le_refl _))) (Heap.get?_push_size _ rfl) hl (r.keeps (fun _ _ e => Heap.get?_push_of_some _ e) ht)

theorem fits_two {a b : Nat} (h : a ≤ big) (h' : b ≤ big) : a + b ≤ sizeLine := by rw [sizeLine_eq]; unfold big at h h'; omega
theorem smallI_bits {i : Int} (h : smallI i = true) : Builtin.Int.intBits i ≤ 64 := by
  have h1 := smallI_lt h
  exact intBits_le_64 (by omega) (by omega)
theorem pow_ok {a b : Int} (c : (decide (0 ≤ b) && decide (b ≤ 64) && smallI a) = true) : 0 ≤ b ∧ b ≤ 1000000 ∧ a.natAbs < 2 ^ 64 := by
  rw [Bool.and_eq_true, Bool.and_eq_true] at c
  exact ⟨of_decide_eq_true c.1.1, by have := of_decide_eq_true c.1.2; omega, by have := smallI_lt c.2; omega⟩

theorem binV_sound {op : Operator} {p q r : PV} {u v : Value} (nb : ∀ b, N b → (s.heap.get? b).isSome = true) (h : binV op p q = some r) (hp : RelV X N s.heap s.toks p u) (hq : RelV X N s.heap s.toks q v) :
    wpAny (model prog w) A (binaryOp op u v) (Res X N s r) E s := by
  cases op with
  | Add => cases p with
    | int a => cases q with
      | int b =>
        obtain rfl := Option.some.inj h
        apply hp.intC; intro _ 
        apply hq.intC; intro _ 
        exact add_int ⟨KS.one s, .int _ _⟩
      | _ => exact no_some h
    | str a g => cases q with
      | str b g' =>
        apply hp.strC; intro t hl hg 
        apply hq.strC; intro t' hl' hg' 
        obtain ⟨rfl, hlen⟩ := mkS_some h
        refine wp_toks_here (add_str (fun t'' tk ht => ⟨KS.tok ht, .str _ _ _ (Nat.le_trans hlen lim_big) (fun e => nomatch e)⟩) ?_)
        exact fits_two hl hl'
      | _ => exact no_some h
    | bytes a => cases q with
      | bytes b =>
        apply hp.bytesC; intro t hl 
        apply hq.bytesC; intro t' hl' 
        obtain ⟨rfl, hlen⟩ := mkB_some h
        refine wp_toks_here (PySem.W.KBy.add_bytes (sizeLine_eq ▸ fits_two hl hl') fun t'' tk ht => ⟨KS.tok ht, ?_⟩)
        rw [show a.toArray ++ b.toArray = (a ++ b).toArray by simp]
        exact .bytes _ _ (Nat.le_trans hlen lim_big)
      | _ => exact no_some h
    | lst a => cases q with
      | lst b =>
        apply hp.lstC; intro l vs n hN ho hl hr 
        apply hq.lstC; intro l' us n' hN' ho' hl' hr' 
        obtain ⟨rfl, hlen⟩ := mkL_some h
        have e : vs.toArray ++ us.toArray = (vs ++ us).toArray := by simp
        refine concat_meets ⟨_, ho, rfl⟩ ⟨_, ho', rfl⟩ noFill_list_add seq_list_add PySem.F.slot_list_add PySem.F.entry_list_add (PySem.F.args_list_add_2 _ _) (PySem.AutoSeq1.list___add___list_list_0 l vs.toArray n l' us.toArray n' (fits_two (Nat.le_trans (Nat.le_of_eq hr.length.symm) hl) (Nat.le_trans (Nat.le_of_eq hr'.length.symm) hl'))) ⟨ho, ho', ?_⟩
        rw [e]
        exact ⟨KS.push _ (Nat.le_refl _), RelV.newList nb (Nat.le_trans hlen lim_big) (hr.append hr') rfl (Nat.le_refl _)⟩
      | _ => exact no_some h
    | _ => exact no_some h
  | Sub => cases p with
    | int a => cases q with
      | int b =>
        obtain rfl := Option.some.inj h
        apply hp.intC; intro _ 
        apply hq.intC; intro _ 
        exact sub_int' ⟨KS.one s, .int _ _⟩
      | _ => exact no_some h
    | _ => exact no_some h
  | Mult => cases p with
    | int a => cases q with
      | int b =>
        obtain ⟨c, rfl⟩ := if_some h
        apply hp.intC; intro _ 
        apply hq.intC; intro _ 
        exact mul_int ⟨KS.one s, .int _ _⟩ (IntMulOk.of_left (smallI_bits (Bool.and_eq_true_iff.mp c).1))
      | _ => exact no_some h
    | _ => exact no_some h
  | FloorDiv => cases p with
    | int a => cases q with
      | int b =>
        obtain ⟨c, rfl⟩ := if_some h
        apply hp.intC; intro _ 
        apply hq.intC; intro _ 
        exact floordiv_int (divI_ne c).1 ⟨KS.one s, .int _ _⟩ (.inl (PyProof.noPylong_small (divI_ne c).2))
      | _ => exact no_some h
    | _ => exact no_some h
  | Mod => cases p with
    | int a => cases q with
      | int b =>
        obtain ⟨c, rfl⟩ := if_some h
        apply hp.intC; intro _ 
        apply hq.intC; intro _ 
        exact mod_int' (divI_ne c).1 ⟨KS.one s, .int _ _⟩
      | _ => exact no_some h
    | _ => exact no_some h
  | Pow => cases p with
    | int a => cases q with
      | int b =>
        obtain ⟨c, rfl⟩ := if_some h
        apply hp.intC; intro _ 
        apply hq.intC; intro _ 
        obtain ⟨h1, h2, h3⟩ := pow_ok c
        exact pow_int_small h1 h2 h3 ⟨KS.one s, .int _ _⟩
      | _ => exact no_some h
    | _ => exact no_some h
  | BitXor => cases p with
    | int a => cases q with
      | int b =>
        obtain rfl := Option.some.inj h
        apply hp.intC; intro _ 
        apply hq.intC; intro _ 
        exact xor_int ⟨KS.one s, .int _ _⟩
      | _ => exact no_some h
    | _ => exact no_some h
  | _ => exact no_some h

theorem ibinV_sound {op : Operator} {p q r : PV} {u v : Value} (h : binV op p q = some r) (ho : (op = .Add ∨ op = .Sub) ∧ ((∃ i, p = .int i) ∨ ∃ x g, p = .str x g)) (hp : RelV X N s.heap s.toks p u) (hq : RelV X N s.heap s.toks q v) :
    wpAny (model prog w) A (inplaceOp op u v) (Res X N s r) E s := by
  obtain ⟨ho, hk⟩ := ho
  rcases ho with rfl | rfl
  · rcases hk with ⟨i, rfl⟩ | ⟨x, g, rfl⟩
    · cases q <;> first | exact no_some h | skip
      obtain rfl := Option.some.inj h
      apply hp.intC; intro _ 
      apply hq.intC; intro _ 
      exact iadd_int ⟨KS.one s, .int _ _⟩
    · cases q <;> first | exact no_some h | skip
      apply hp.strC; intro t hl hg 
      apply hq.strC; intro t' hl' hg' 
      obtain ⟨rfl, hlen⟩ := mkS_some h
      refine wp_toks_here (iadd_str (fun t'' tk ht => ⟨KS.tok ht, .str _ _ _ (Nat.le_trans hlen lim_big) (fun e => nomatch e)⟩) ?_)
      rw [sizeLine_eq]
      unfold big at hl hl'
      omega
  · rcases hk with ⟨i, rfl⟩ | ⟨x, g, rfl⟩
    · cases q <;> first | exact no_some h | skip
      obtain rfl := Option.some.inj h
      apply hp.intC; intro _ 
      apply hq.intC; intro _ 
      exact isub_int ⟨KS.one s, .int _ _⟩
    · exact no_some h

theorem truthV_sound {p : PV} {b : Bool} {v : Value} (h : truthV p = some b) (hp : RelV X N s.heap s.toks p v) : wpAny (model prog w) A (truthy v) (ResB s b) E s := by
  cases p with
  | bool b => obtain rfl := Option.some.inj h; apply hp.boolC; exact wpAny_truthy_bool ⟨KS.refl s, rfl⟩
  | int i => obtain rfl := Option.some.inj h; apply hp.intC; intro _; exact truthy_int ⟨KS.refl s, rfl⟩
  | str x g =>
    obtain rfl := Option.some.inj h
    apply hp.strC; intro t hl hg 
    refine P.truthy_str (by unfold big at hl; omega) ⟨KS.tok (by omega), ?_⟩
    rw [Bool.eq_iff_iff]; simp
  | _ => exact no_some h
end
end Mine
end

section
set_option maxHeartbeats 400000
open PySem PySem.Calls PyProof.Rows PySem.Spec
namespace Mine

/-- read at once: an owned list may be told by its letters -/
noncomputable def RelB (X : ObjW) (N : Addr → Prop) (h : Heap) (tk : Nat) (p : PV) (v : Value) : Prop :=
  RelV X N h tk p v ∨ ∃ l a vs n, p = .lst l ∧ v = .ref a ∧ h.get? a = some (seqO "list" vs n) ∧ l.length ≤ big ∧ RelVs X N h tk l vs

structure XOk (prog : Program) (w : World) (X : ObjW) : Prop where
  inS : ∀ (A : Around) (E : Value → Shared → Prop) (s : Shared) (x : Str) (t : Tok) (a : Addr) (o : Obj) (l : List Str) (Q : Value → Shared → Prop), s.heap.get? a = some o → X.sset o l → (∀ tk, Q (.bool (l.any (· == x))) { s with toks := tk }) →
    wpAny (model prog w) A (compareOp .In (.str x t) (.ref a)) Q E s
  getD : ∀ (A : Around) (E : Value → Shared → Prop) (s : Shared) (x y : Str) (t : Tok) (a : Addr) (o : Obj) (l : List (Str × Str)) (value slice : Expr) (Q : Value → Shared → Prop), s.heap.get? a = some o → X.dct o l → l.lookup x = some y →
    (∀ t' tk, y.length ≤ big → Q (.str y t') { s with toks := tk }) → wpAny (model prog w) A (subscriptTail value slice (.ref a) (.str x t)) Q E s
  lenS : ∀ (A : Around) (E : Value → Shared → Prop) (s : Shared) (a : Addr) (o : Obj) (l : List Str) (Q : Value → Shared → Prop), s.heap.get? a = some o → X.sset o l → (∀ t' tk, Q (.int l.length t') { s with toks := tk }) →
    wpAny (model prog w) A (call (.builtin "len") [.ref a]) Q E s
  baseK : ∀ h h', X.base h → Sub h h' → X.base h'
  keep : ∀ (f : Addr) (h : Heap), (f = X.cls ∨ f = X.fn .get ∨ f = X.fn .keys ∨ f = X.fn .items) → X.act → X.base h → ∃ k, (k = Keeper.frame ∨ k = Keeper.machine ∨ k = Keeper.boundFrame) ∧ PySem.W.Looks (model prog w) h (keeperOf (.ref f)) k
  ia : ∀ o d, X.inst o d → X.act
  hdrM : ∀ (A : Around) (E : Value → Shared → Prop) (s : Shared) (N : Addr → Prop) (l : List (Str × Str)) (v : Value) (m : Str) (k : MK) (pl : Sem Bool) (Q : Value × List Value → Shared → Prop), X.base s.heap → RelV X N s.heap s.toks (.hdr l) v → mkOf m = some k → (k = .get ∨ k = .keys ∨ k = .items) →
    (∀ tk, Q (.ref (X.fn k), [v]) { s with toks := tk }) → wpAny (model prog w) A (getMethod v m pl) Q E s
  hdrCall : ∀ (A : Around) (E : Value → Shared → Prop) (s : Shared) (N : Addr → Prop) (l : List (Str × Str)) (v : Value) (k : MK) (ps : List PV) (vs : List Value) (r : PV), Room 40 A → s.heap.NoLimit → 0 < s.toks → (∀ b, N b → (s.heap.get? b).isSome = true) → X.base s.heap →
    RelV X N s.heap s.toks (.hdr l) v → RelVs X N s.heap s.toks ps vs → methV (.hdr l) k ps = some r → wpAny (model prog w) A (call (.ref (X.fn k)) (v :: vs)) (fun u s' => KS s s' ∧ RelV X N s'.heap s'.toks r u) E s
  hdrNew : ∀ (A : Around) (E : Value → Shared → Prop) (s : Shared) (N : Addr → Prop) (l : List PV) (kvs : List (Str × Str)) (v : Value), X.act → Room 40 A → s.heap.NoLimit → 0 < s.toks → (∀ b, N b → (s.heap.get? b).isSome = true) → X.base s.heap →
    RelV X N s.heap s.toks (.lst l) v → asPairs l = some kvs → kvs.all (fun kv => cleanS kv.1 && cleanS kv.2) = true → wpAny (model prog w) A (call (.ref X.cls) [v]) (fun u s' => KS s s' ∧ RelV X N s'.heap s'.toks (.hdr kvs) u) E s

section
variable {X : ObjW} {N : Addr → Prop} {h : Heap} {tk : Nat}

theorem RelB.lst {l : List PV} {v : Value} (r : RelB X N h tk (.lst l) v) : ∃ a vs n, v = .ref a ∧ h.get? a = some (seqO "list" vs n) ∧ l.length ≤ big ∧ RelVs X N h tk l vs := by
  rcases r with r | ⟨l', a, vs, n, e, r⟩
  · cases r with | lst _ a vs n hN ho hl hr => exact ⟨a, vs, n, rfl, ho, hl, hr⟩
  · cases e; exact ⟨a, vs, n, r⟩
theorem RelB.plain {p : PV} {v : Value} (r : RelB X N h tk p v) (hp : ∀ l, p ≠ .lst l) : RelV X N h tk p v := by
  rcases r with r | ⟨l, a, vs, n, e, r⟩
  · exact r
  · exact absurd e (hp l)
theorem RelB.keeps {h' : Heap} {tk' : Nat} (hk : Sub h h') (ht : tk ≤ tk') {p : PV} {v : Value} (r : RelB X N h tk p v) : RelB X N h' tk' p v := by
  rcases r with r | ⟨l, a, vs, n, e, e', ho, hl, r⟩
  · exact .inl (r.keeps hk ht)
  · exact .inr ⟨l, a, vs, n, e, e', hk _ _ ho, hl, r.keeps hk ht⟩

mutual
noncomputable def toD : PV → PyData
  | .bool b => .bool b
  | .int i => .int i
  | .str s _ => .str s
  | .tup l => .tuple (toDs l)
  | .lst l => .list (toDs l)
  | _ => .none
noncomputable def toDs : List PV → List PyData
  | [] => []
  | p :: r => toD p :: toDs r
end

mutual
theorem reads_of : ∀ (p : PV) {v : Value} (n : Nat), RelV X N h tk p v → okD n p = true → ∃ as, Reads h v (toD p) as
  | .none, _, _, r, _ => by apply r.noneC; exact ⟨_, Reads.none⟩
  | .bool b, _, _, r, _ => by apply r.boolC; exact ⟨_, Reads.bool b⟩
  | .int i, _, _, r, _ => by apply r.intC; intro t; exact ⟨_, Reads.int i t⟩
  | .str x _, _, _, r, _ => by apply r.strC; intro t _ _; exact ⟨_, Reads.str x t⟩
  | .bytes _, _, n, _, hk => by cases n <;> cases hk
  | .tup l, _, n, r, hk => by
    cases n with
    | zero => cases hk
    | succ n =>
      apply r.tupC; intro a vs m _ ho _ hr
      have hk : okDs n l = true := hk
      exact (reads_ofs l n hr hk).elim fun as q => ⟨as, .tuple ho rfl rfl q⟩
  | .lst l, _, n, r, hk => by
    cases n with
    | zero => cases hk
    | succ n =>
      apply r.lstC; intro a vs m _ ho _ hr
      have hk : okDs n l = true := hk
      exact (reads_ofs l n hr hk).elim fun as q => ⟨_, .list ho rfl rfl q⟩
  | .dct _, _, n, _, hk => by cases n <;> cases hk
  | .sset _, _, n, _, hk => by cases n <;> cases hk
  | .hdr _, _, n, _, hk => by cases n <;> cases hk
theorem reads_ofs : ∀ (ps : List PV) {vs : List Value} (n : Nat), RelVs X N h tk ps vs → okDs n ps = true → ∃ as, ReadsAll h vs (toDs ps) as
  | [], _, _, r, _ => by apply r.nilC; exact ⟨_, ReadsAll.nil⟩
  | p :: ps, _, n, r, hk => by
    have hk : (okD n p && okDs n ps) = true := hk
    have hk := Bool.and_eq_true_iff.mp hk
    apply r.consC; intro v vs h1 h2
    exact (reads_of p n h1 hk.1).elim fun as q => (reads_ofs ps n h2 hk.2).elim fun bs r => ⟨_, ReadsAll.cons q r⟩
end

mutual
theorem lay_of : ∀ (n : Nat) (p : PV), okD n p = true → (toD p).canLay0 = true ∧ (toD p).depth ≤ n
  | n, .none, _ => ⟨rfl, Nat.zero_le _⟩
  | n, .bool _, _ => ⟨rfl, Nat.zero_le _⟩
  | n, .int _, _ => ⟨rfl, Nat.zero_le _⟩
  | n, .str _ _, hk => by cases n <;> exact ⟨hk, Nat.zero_le _⟩
  | n, .bytes _, hk => by cases n <;> cases hk
  | n, .tup l, hk => by
    cases n with
    | zero => cases hk
    | succ n => have := lay_ofs n l hk; exact ⟨this.1, Nat.succ_le_succ this.2⟩
  | n, .lst l, hk => by
    cases n with
    | zero => cases hk
    | succ n => have := lay_ofs n l hk; exact ⟨this.1, Nat.succ_le_succ this.2⟩
  | n, .dct _, hk => by cases n <;> cases hk
  | n, .sset _, hk => by cases n <;> cases hk
  | n, .hdr _, hk => by cases n <;> cases hk
theorem lay_ofs : ∀ (n : Nat) (ps : List PV), okDs n ps = true → PyData.canLayAll0 (toDs ps) = true ∧ PyData.depthAll (toDs ps) ≤ n
  | n, [], _ => ⟨rfl, Nat.zero_le _⟩
  | n, p :: r, hk => by
    have hk : (okD n p && okDs n r) = true := hk
    have hk := Bool.and_eq_true_iff.mp hk
    have h1 := lay_of n p hk.1
    have h2 := lay_ofs n r hk.2
    exact ⟨Bool.and_eq_true_iff.mpr ⟨h1.1, h2.1⟩, Nat.max_le.mpr ⟨h1.2, h2.2⟩⟩
end

mutual
theorem eqv_of : ∀ (p q : PV) (b : Bool), eqP p q = some b → PyData.eqv (toD p) (toD q) = b
  | .none, q, b, h => by cases q <;> first | exact no_some h | exact Option.some.inj h
  | .bool _, q, b, h => by cases q <;> first | exact no_some h | exact Option.some.inj h
  | .int _, q, b, h => by cases q <;> first | exact no_some h | exact Option.some.inj h
  | .str _ _, q, b, h => by cases q <;> first | exact no_some h | exact Option.some.inj h
  | .tup l, q, b, h => by
    cases q with
    | tup m => exact eqvs_of l m b h
    | _ => exact no_some h
  | .lst l, q, b, h => by
    cases q with
    | lst m => exact eqvs_of l m b h
    | _ => exact no_some h
  | .bytes _, q, b, h => no_some h
  | .dct _, q, b, h => no_some h
  | .sset _, q, b, h => no_some h
  | .hdr _, q, b, h => no_some h
theorem eqvs_of : ∀ (p q : List PV) (b : Bool), eqPs p q = some b → PyData.eqvAll (toDs p) (toDs q) = b
  | [], [], b, h => Option.some.inj h
  | p :: r, q :: t, b, h => by
    have e1 : PyData.eqvAll (toDs (p :: r)) (toDs (q :: t)) = (PyData.eqv (toD p) (toD q) && PyData.eqvAll (toDs r) (toDs t)) := rfl
    rw [e1]
    obtain ⟨c, e, h⟩ := Option.bind_eq_some_iff.mp h
    rw [eqv_of p q _ e]
    cases c with
    | true => exact eqvs_of r t b h
    | false => exact Option.some.inj h
  | [], _ :: _, b, h => Option.some.inj h
  | _ :: _, [], b, h => Option.some.inj h
end

theorem shaped_of {p : PV} (hk : okD 8 p = true) : SeqAt.shaped (toD p) = true := by
  have := lay_of 8 p hk
  unfold SeqAt.shaped
  rw [this.1, Bool.true_and]
  exact decide_eq_true (by omega)
end

section
variable {X : ObjW} {N : Addr → Prop} {prog : Program} {w : World} {A : Around} {E : Value → Shared → Prop} {s : Shared}

theorem reads_ofB {p : PV} {v : Value} (hk : okD 8 p = true) (r : RelB X N s.heap s.toks p v) : ∃ as, Reads s.heap v (toD p) as := by
  rcases r with r | ⟨l, a, vs, n, rfl, rfl, ho, _, r⟩
  · exact reads_of p 8 r hk
  · exact (reads_ofs l 7 r hk).elim fun as q => ⟨_, .list ho rfl rfl q⟩

theorem RelB.boolC {b : Bool} {u : Value} {C : Value → Prop} (r : RelB X N s.heap s.toks (.bool b) u) (k : C (.bool b)) : C u := (r.plain fun _ e => nomatch e).boolC k
theorem RelB.intC {b : Int} {u : Value} {C : Value → Prop} (r : RelB X N s.heap s.toks (.int b) u) (k : ∀ t, C (.int b t)) : C u := (r.plain fun _ e => nomatch e).intC k
theorem RelB.strC {x : Str} {g : Bool} {u : Value} {C : Value → Prop} (r : RelB X N s.heap s.toks (.str x g) u) (k : ∀ (t : Tok) (_ : x.length ≤ big), C (.str x t)) : C u := (r.plain fun _ e => nomatch e).strC fun t h _ => k t h
theorem RelB.tupC {l : List PV} {v : Value} {C : Value → Prop} (r : RelB X N s.heap s.toks (.tup l) v) (k : ∀ (a : Addr) (vs : List Value) (n : Nat) (_ : s.heap.get? a = some (seqO "tuple" vs n)) (_ : l.length ≤ big) (_ : RelVs X N s.heap s.toks l vs), C (.ref a)) : C v := (r.plain fun _ e => nomatch e).tupC fun a vs n _ => k a vs n
theorem RelB.lstC {l : List PV} {v : Value} {C : Value → Prop} (r : RelB X N s.heap s.toks (.lst l) v) (k : ∀ (a : Addr) (vs : List Value) (n : Nat) (_ : s.heap.get? a = some (seqO "list" vs n)) (_ : l.length ≤ big) (_ : RelVs X N s.heap s.toks l vs), C (.ref a)) : C v := by
  obtain ⟨a, vs, n, rfl, h⟩ := r.lst
  exact k a vs n h.1 h.2.1 h.2.2
theorem RelB.ssetC {l : List Str} {v : Value} {C : Value → Prop} (r : RelB X N s.heap s.toks (.sset l) v) (k : ∀ (a : Addr) (o : Obj) (_ : s.heap.get? a = some o) (_ : X.sset o l), C (.ref a)) : C v := (r.plain fun _ e => nomatch e).ssetC fun a o _ => k a o
theorem RelB.dctC {l : List (Str × Str)} {v : Value} {C : Value → Prop} (r : RelB X N s.heap s.toks (.dct l) v) (k : ∀ (a : Addr) (o : Obj) (_ : s.heap.get? a = some o) (_ : X.dct o l), C (.ref a)) : C v := (r.plain fun _ e => nomatch e).dctC fun a o _ => k a o

theorem eqD_sound {p q : PV} {b : Bool} {u v : Value} (hA : A.units + 64 < cLine) (h : (if okD 8 p && okD 8 q then eqP p q else none) = some b) (hp : RelV X N s.heap s.toks p u) (hq : RelB X N s.heap s.toks q v) :
    wpAny (model prog w) A (compareOp .Eq u v) (Res X N s (.bool b)) E s ∧ wpAny (model prog w) A (compareOp .NotEq u v) (Res X N s (.bool (!b))) E s := by
  by_cases c : (okD 8 p && okD 8 q) = true
  · rw [if_pos c] at h
    have c := Bool.and_eq_true_iff.mp c
    refine (reads_of p 8 hp c.1).elim fun as ra => (reads_ofB c.2 hq).elim fun bs rb => ?_
    obtain rfl := eqv_of _ _ _ h
    exact ⟨eq_dataH ra rb (shaped_of c.1) (shaped_of c.2) hA ⟨KS.refl s, .bool _⟩, ne_dataH ra rb (shaped_of c.1) (shaped_of c.2) hA ⟨KS.refl s, .bool _⟩⟩
  · rw [if_neg c] at h; exact no_some h

theorem eqTop_sound {p q : PV} {b : Bool} {u v : Value} (hA : A.units + 64 < cLine) (h : eqTop p q = some b) (hp : RelV X N s.heap s.toks p u) (hq : RelB X N s.heap s.toks q v) :
    wpAny (model prog w) A (compareOp .Eq u v) (Res X N s (.bool b)) E s ∧ wpAny (model prog w) A (compareOp .NotEq u v) (Res X N s (.bool (!b))) E s := by
  cases p with
  | int a => cases q with
    | int b => obtain rfl := Option.some.inj h; apply hp.intC; intro _; apply hq.intC; intro _; exact ⟨eq_int ⟨KS.refl s, .bool _⟩, ne_int ⟨KS.refl s, .bool _⟩⟩
    | _ => exact no_some h
  | bool a => cases q with
    | bool b => obtain rfl := Option.some.inj h; apply hp.boolC; apply hq.boolC; exact ⟨eq_bool ⟨KS.refl s, .bool _⟩, ne_bool ⟨KS.refl s, .bool _⟩⟩
    | _ => exact no_some h
  | str a _ => cases q with
    | str b _ => obtain rfl := Option.some.inj h; apply hp.strC; intro _ _ _; apply hq.strC; intro _ _; exact ⟨eq_str ⟨KS.refl s, .bool _⟩, ne_str ⟨KS.refl s, .bool _⟩⟩
    | _ => exact no_some h
  | lst a => cases q with
    | lst b => exact eqD_sound hA h hp hq
    | _ => exact no_some h
  | tup a => cases q with
    | tup b => exact eqD_sound hA h hp hq
    | _ => exact no_some h
  | _ => exact no_some h

theorem strsAre_of {h : Heap} {tk : Nat} : ∀ {ps : List PV} {vs : List Value} {ss : List Str}, RelVs X N h tk ps vs → asStrs ps = some ss → StrsAre vs ss
  | [], _, _, r, e => by obtain rfl := Option.some.inj e; apply r.nilC; exact .nil
  | p :: r', _, _, r, e => by
    cases p with
    | str x g =>
      apply r.consC; intro v vs h1 h2
      apply h1.strC; intro t _ _
      obtain ⟨ss, e', rfl⟩ := Option.map_eq_some_iff.mp e
      exact .cons _ _ (strsAre_of h2 e')
    | _ => exact no_some e
theorem intsAre_of {h : Heap} {tk : Nat} : ∀ {ps : List PV} {vs : List Value} {ss : List Int}, RelVs X N h tk ps vs → asInts ps = some ss → IntsAre vs ss
  | [], _, _, r, e => by obtain rfl := Option.some.inj e; apply r.nilC; exact .nil
  | p :: r', _, _, r, e => by
    cases p with
    | int x =>
      apply r.consC; intro v vs h1 h2
      apply h1.intC; intro t
      obtain ⟨ss, e', rfl⟩ := Option.map_eq_some_iff.mp e
      exact .cons _ _ (intsAre_of h2 e')
    | _ => exact no_some e

theorem islist {h : Heap} {a : Addr} {vs : List Value} {n : Nat} (ho : h.get? a = some (seqO "list" vs n)) : h.IsList a vs.toArray := ⟨_, ho, rfl, n, rfl⟩

theorem inV_sound (XO : XOk prog w X) {p q : PV} {b : Bool} {u v : Value} (h : inV p q = some b) (hp : RelV X N s.heap s.toks p u) (hq : RelB X N s.heap s.toks q v) :
    wpAny (model prog w) A (compareOp .In u v) (Res X N s (.bool b)) E s := by
  cases p with
  | str a _ =>
    apply hp.strC; intro _ _ _
    cases q with
    | str b _ => obtain rfl := Option.some.inj h; apply hq.strC; intro _ _; exact in_str ⟨KS.refl s, .bool _⟩
    | lst l =>
      apply hq.lstC; intro a vs n ho hl hr
      obtain ⟨ys, e, rfl⟩ := Option.map_eq_some_iff.mp h
      exact in_list_strs (islist ho) (strsAre_of hr e) ⟨KS.refl s, .bool _⟩
    | sset l =>
      apply hq.ssetC; intro a o ho hd
      obtain rfl := Option.some.inj h
      exact wp_toks_here (XO.inS A E s _ _ a o _ _ ho hd fun tk ht => ⟨KS.tok ht, .bool _⟩)
    | _ => exact no_some h
  | _ => exact no_some h
theorem notIn_of_In {u v : Value} {Q : Value → Shared → Prop} (h : wpAny (model prog w) A (compareOp .In u v) (fun r s' => ∃ b, r = .bool b ∧ Q (.bool (!b)) s') E s) : wpAny (model prog w) A (compareOp .NotIn u v) Q E s := by
  have e : ∀ t : Sem Bool, wpAny (model prog w) A (do return .bool (← t)) (fun r s' => ∃ b, r = Value.bool b ∧ Q (.bool (!b)) s') E s → wpAny (model prog w) A (do return .bool (!(← t))) Q E s := by
    intro t h Γ p hΓ
    have := h Γ p hΓ
    simp only [Sem.wp_bind', Sem.wp_pure'] at this ⊢
    refine Sem.wp_mono _ _ _ (fun b _ s' q => ?_) (fun _ _ _ q => q) _ _ this
    obtain ⟨b', e, q⟩ := q
    cases e
    exact q
  exact e _ h

theorem cmpV_sound (XO : XOk prog w X) {op : CmpOp} {p q : PV} {b : Bool} {u v : Value} (hA : A.units + 64 < cLine) (h : cmpV op p q = some b) (hp : RelV X N s.heap s.toks p u) (hq : RelB X N s.heap s.toks q v) :
    wpAny (model prog w) A (compareOp op u v) (Res X N s (.bool b)) E s := by
  cases op with
  | Eq => exact (eqTop_sound hA h hp hq).1
  | NotEq =>
    obtain ⟨c, e, rfl⟩ := Option.map_eq_some_iff.mp h
    exact (eqTop_sound hA e hp hq).2
  | Lt => cases p with
    | int a => cases q with
      | int b => obtain rfl := Option.some.inj h; apply hp.intC; intro _; apply hq.intC; intro _; exact PyProof.Rows.lt_int ⟨KS.refl s, .bool _⟩
      | _ => exact no_some h
    | _ => exact no_some h
  | LtE => cases p with
    | int a => cases q with
      | int b => obtain rfl := Option.some.inj h; apply hp.intC; intro _; apply hq.intC; intro _; exact PyProof.Rows.le_int ⟨KS.refl s, .bool _⟩
      | _ => exact no_some h
    | _ => exact no_some h
  | Gt => cases p with
    | int a => cases q with
      | int b => obtain rfl := Option.some.inj h; apply hp.intC; intro _; apply hq.intC; intro _; exact PyProof.Rows.gt_int ⟨KS.refl s, .bool _⟩
      | _ => exact no_some h
    | _ => exact no_some h
  | GtE => cases p with
    | int a => cases q with
      | int b => obtain rfl := Option.some.inj h; apply hp.intC; intro _; apply hq.intC; intro _; exact PyProof.Rows.ge_int ⟨KS.refl s, .bool _⟩
      | _ => exact no_some h
    | _ => exact no_some h
  | In => exact inV_sound XO h hp hq
  | NotIn =>
    obtain ⟨c, e, rfl⟩ := Option.map_eq_some_iff.mp h
    exact notIn_of_In (wpAny_mono (inV_sound XO e hp hq) (fun r s' q => ⟨c, by cases q.2; rfl, q.1, .bool _⟩) fun _ _ q => q)
  | _ => exact no_some h

theorem subscripted_ops (slice : Expr) (o i : Value) : ∃ ops, subscripted slice false o i = operate ops (getItem o i) := by
  cases slice with
  | Slice lo hi st p => cases st <;> exact ⟨_, rfl⟩
  | _ => exact ⟨_, rfl⟩

theorem tail_of {value slice : Expr} {o i : Value} {T id : String} {Q : Value → Shared → Prop} (hT : s.TypeIs o T)
    (hl : typeLookup (.type T) "__getitem__" = pure (some (.builtin id))) (hg : wpAny (model prog w) A (getItem o i) Q E s) : wpAny (model prog w) A (subscriptTail value slice o i) Q E s := by
  obtain ⟨ops, e⟩ := subscripted_ops slice o i
  exact tail_any hT hl hg e

theorem idxAt_spec {n : Nat} {i : Int} {k : Nat} (h : idxAt n i = some k) : seqIndex? i n = some k ∧ -(2 ^ 63) ≤ i ∧ i < 2 ^ 63 ∧ (0 ≤ i → k = i.toNat) ∧ (i < 0 → k = (i + n).toNat ∧ -(n : Int) ≤ i) := by
  unfold idxAt at h
  split at h
  · rename_i c
    have c := smallI_lt c
    unfold seqIndex?
    split at h
    · split at h
      · cases h
        rename_i h0 h1
        have : ¬ i < 0 := by omega
        simp only [this, if_false]
        refine ⟨by rw [if_pos (by simp [h0, h1])], by omega, by omega, fun _ => trivial, fun q => q.elim⟩
      · cases h
    · split at h
      · cases h
        rename_i h0 h1
        have : i < 0 := by omega
        simp only [this, if_true]
        refine ⟨by rw [if_pos (by simp; omega)], by omega, by omega, fun q => absurd q h0, fun _ => ⟨trivial, by omega⟩⟩
      · cases h
  · cases h

theorem idxV_sound (XO : XOk prog w X) {value slice : Expr} {p q r : PV} {u v : Value} (h : idxV p q = some r) (hp : RelB X N s.heap s.toks p u) (hq : RelV X N s.heap s.toks q v) (h0 : 0 < s.toks) :
    wpAny (model prog w) A (subscriptTail value slice u v) (Res X N s r) E s := by
  cases p with
  | str x _ => cases q with
    | int i =>
      apply hp.strC; intro t hl
      apply hq.intC; intro _
      obtain ⟨k, hk, h⟩ := Option.bind_eq_some_iff.mp h
      obtain ⟨c, hc, rfl⟩ := Option.map_eq_some_iff.mp h
      have hx := idxAt_spec hk
      refine tail_of (typeIs_str _ _ _) slot_str_getitem.lookup (getItem_str (c := c) ?_ (hx.1.symm ▸ hc) ⟨KS.one s, .str _ _ _ (by show (1 : Nat) ≤ big; decide) fun _ => ⟨h0, Nat.lt_succ_self _⟩⟩)
      exact Bool.or_eq_false_iff.mpr ⟨decide_eq_false (by have := hx.2.1; omega), decide_eq_false (by have := hx.2.2.1; omega)⟩
    | _ => exact no_some h
  | lst l => cases q with
    | int i =>
      apply hp.lstC; intro a vs n ho hl hr
      apply hq.intC; intro _
      obtain ⟨k, hk, h⟩ := Option.bind_eq_some_iff.mp h
      obtain ⟨x, hx, hrx⟩ := hr.get h
      obtain ⟨h1, h2, h3, h4, h5⟩ := idxAt_spec hk
      have hsz : vs.toArray.size = vs.length := by simp
      refine tail_of (islist ho).typeIs slot_list_getitem.lookup ?_
      by_cases hi : 0 ≤ i
      · refine wpAny_getItem_list (islist ho) hi h3 (x := x) ?_ ⟨KS.refl s, hrx⟩
        rw [← h4 hi]; simpa using hx
      · have hi : i < 0 := Int.not_le.mp hi
        refine wpAny_getItem_list_neg (islist ho) hi ?_ h2 (x := x) ?_ ⟨KS.refl s, hrx⟩
        · rw [hsz, ← hr.length]; exact (h5 hi).2
        · have e := (h5 hi).1
          rw [hr.length] at e
          rw [hsz, ← e]
          simpa using hx
    | _ => exact no_some h
  | tup l => cases q with
    | int i =>
      apply hp.tupC; intro a vs n ho hl hr
      apply hq.intC; intro _
      obtain ⟨k, hk, h⟩ := Option.bind_eq_some_iff.mp h
      obtain ⟨x, hx, hrx⟩ := hr.get h
      have h1 := idxAt_spec hk
      have ht : IsTup s.heap a vs.toArray := ⟨_, ho, rfl, n, rfl⟩
      refine tail_of ht.typeIs slot_tuple_getitem.lookup (PyProof.Rows.getItem_tuple ht h1.2.1 h1.2.2.1 (j := k) ?_ (x := x) (by simpa using hx) ⟨KS.refl s, hrx⟩)
      rw [← h1.1, hr.length]; simp
    | _ => exact no_some h
  | dct l => cases q with
    | str k _ =>
      apply hp.dctC; intro a o ho hd
      apply hq.strC; intro _ _ _
      obtain ⟨y, hy, rfl⟩ := Option.map_eq_some_iff.mp h
      exact wp_toks_here (XO.getD A E s _ y _ a o _ value slice _ ho hd hy fun t' tk hl ht => ⟨KS.tok ht, .str _ _ _ hl fun e => nomatch e⟩)
    | _ => exact no_some h
  | _ => exact no_some h
end
end Mine
end

section
set_option maxHeartbeats 1000000
open PySem PySem.Calls PyProof.Rows PySem.Spec PySem.Builtin PySem.Builtin.Str
namespace Mine

section
variable {X : ObjW} {N : Addr → Prop} {prog : Program} {w : World} {A : Around} {E : Value → Shared → Prop} {s : Shared}

theorem pickL_length {α : Type} (l : List α) (lo hi st : Option Int) : (pickL l lo hi st).length ≤ l.length := by
  have h := slicePick_size_le ((List.replicate l.length Value.none).toArray) lo hi st
  unfold slicePick at h
  rw [List.size_toArray] at h
  have h2 : (List.replicate l.length Value.none).toArray.size = l.length := by simp
  rw [h2] at h
  unfold pickL
  refine Nat.le_trans (Nat.le_of_eq ?_) h
  generalize (sliceRange (sliceBounds lo hi st l.length).1 (sliceBounds lo hi st l.length).2.1 (sliceBounds lo hi st l.length).2.2) = is
  induction is with
  | nil => rfl
  | cons i is ih =>
    rw [List.filterMap_cons, List.filterMap_cons]
    by_cases hi : i < l.length
    · have e1 : l[i]? = some l[i] := List.getElem?_eq_getElem hi
      have e2 : (List.replicate l.length Value.none).toArray[i]? = some Value.none := by simp [hi]
      rw [e1, e2]; simp [ih]
    · have e1 : l[i]? = none := List.getElem?_eq_none (by omega)
      have e2 : (List.replicate l.length Value.none).toArray[i]? = none := by simp [hi]
      rw [e1, e2]; exact ih

theorem part_value {v : Value} {o : Option Int} (h : IsPart v o) : ∃ q : Option (Int × Tok), v = partValue q ∧ q.map (·.1) = o := by
  cases h with
  | none => exact ⟨none, rfl, rfl⟩
  | int i t => exact ⟨some (i, t), rfl, rfl⟩

theorem isPart_none {v : Value} (h : IsPart v none) : v = .none := by cases h; rfl
theorem picked_pick (b : List UInt8) (lo hi : Option Int) : PySem.W.KBy.picked b.toArray lo hi = (pickL b lo hi none).toArray := by
  rw [PySem.W.KBc.picked_eq]
  unfold pickL
  rw [sliceBounds_plain]
  simp only [sliceRange_one]
  have this := pick_run b.toArray (lo.elim 0 (clipAt b.length)) (hi.elim b.length (clipAt b.length) - lo.elim 0 (clipAt b.length))
  simp only [List.getElem?_toArray] at this
  rw [this, List.size_toArray]
theorem slicePick_pick {l : List PV} {vs : List Value} {lo hi st : Option Int} (e : l.length = vs.length) : slicePick vs.toArray lo hi st = ((sliceRange (sliceBounds lo hi st l.length).1 (sliceBounds lo hi st l.length).2.1 (sliceBounds lo hi st l.length).2.2).filterMap (vs[·]?)).toArray := by
  unfold slicePick
  simp [e]

theorem sliceV_sound {value slice : Expr} {p r : PV} {lo hi st : Option Int} {u vl vu vs : Value} {a : Addr} (nb : ∀ b, N b → (s.heap.get? b).isSome = true)
    (h : sliceV p lo hi st = some r) (hp : RelV X N s.heap s.toks p u) (hl : IsPart vl lo) (hu : IsPart vu hi) (hst : IsPart vs st) (hs : s.heap.IsSliceOf a vl vu vs) :
    wpAny (model prog w) A (subscriptTail value slice u (.ref a)) (Res X N s r) E s := by
  have key : ∀ {b : Bool} {x : Option PV}, (if b then x else none) = some r → b = true ∧ x = some r := fun {b x} h => by
    cases b with
    | true => exact ⟨rfl, h⟩
    | false => exact no_some h
  cases p with
  | str x _ =>
    apply hp.strC; intro t hlen hg
    obtain ⟨c, h⟩ := key h
    obtain rfl : st = none := by simpa using c
    obtain rfl := Option.some.inj h
    obtain ⟨l', rfl, rfl⟩ := part_value hl
    obtain ⟨u', rfl, rfl⟩ := part_value hu
    obtain rfl := isPart_none hst
    exact tail_of (typeIs_str _ _ _) PySem.F.slot_str_getitem.lookup (wp_toks_here (wpAny_getItem_str_slice (l := l') (u := u') (st := none) hs rfl
        (post_val_or_str ⟨Nat.le_trans (Txt.slice_le _ _ _) (Nat.le_trans hlen big_line), fun t' k ht => ⟨KS.tok ht, .str _ _ _ (Nat.le_trans (Txt.slice_le _ _ _) hlen) fun e => nomatch e⟩⟩)))
  | bytes b =>
    apply hp.bytesC; intro t hlen
    obtain ⟨c, h⟩ := key h
    obtain rfl : st = none := by simpa using c
    obtain rfl := Option.some.inj h
    obtain rfl := isPart_none hst
    refine tail_of rfl PySem.W.FB.slot_bytes_getitem.lookup (wp_toks_here (getItem_meets rfl (by decide) PySem.W.FB.slot_bytes_getitem PySem.W.FB.entry_bytes_getitem (PySem.W.FB.args_bytes_getitem_2 _ _) (PySem.W.KBc.meets_slice2 b.toArray t _ hl hu)
      ⟨hs, Nat.le_trans (PySem.W.KBc.size_picked_le _ lo hi) (Nat.le_trans hlen big_line), fun t' k ht => ?_⟩))
    rw [picked_pick]
    exact ⟨KS.tok ht, .bytes _ _ (Nat.le_trans (pickL_length b lo hi none) hlen)⟩
  | lst l =>
    apply hp.lstC; intro a' vs' n hN ho hlen hr
    have h : (if st == some 0 then none else some (PV.lst (pickL l lo hi st))) = some r := h
    by_cases c : (st == some 0) = true
    · rw [if_pos c] at h; exact no_some h
    · rw [if_neg c] at h
      obtain rfl := Option.some.inj h
      refine tail_of (islist ho).typeIs slot_list_getitem.lookup (wpAny_getItem_list_slice (islist ho) hs hl hu hst (fun e => c (by rw [e]; rfl)) ?_ (Nat.le_trans (Nat.le_of_eq hr.length.symm) (Nat.le_trans hlen big_line)))
      rw [slicePick_pick hr.length]
      exact ⟨KS.push _ (Nat.le_refl _), RelV.newList nb (Nat.le_trans (pickL_length l lo hi st) hlen) (hr.pick _) rfl (Nat.le_refl _)⟩
  | _ => exact no_some h
end
end Mine
end

section
set_option maxHeartbeats 1000000
open PySem PySem.Calls PyProof.Rows PySem.Spec PySem.Builtin PySem.Builtin.Str
namespace Mine

theorem insI_perm (x : Int) : ∀ l, (insI x l).Perm (x :: l)
  | [] => .refl _
  | y :: r => by
    unfold insI
    split
    · exact .refl _
    · exact ((insI_perm x r).cons y).trans (.swap x y r)
theorem sortI_perm : ∀ l, (sortI l).Perm l
  | [] => .refl _
  | x :: r => (insI_perm x _).trans ((sortI_perm r).cons x)
theorem insI_rises (x : Int) : ∀ l, l.Pairwise (· ≤ ·) → (insI x l).Pairwise (· ≤ ·)
  | [], _ => by simp [insI]
  | y :: r, h => by
    have h' := List.pairwise_cons.mp h
    unfold insI
    split
    · rename_i hxy
      refine List.pairwise_cons.mpr ⟨fun z hz => ?_, h⟩
      rcases List.mem_cons.mp hz with rfl | hz
      · exact hxy
      · exact Int.le_trans hxy (h'.1 z hz)
    · rename_i hxy
      refine List.pairwise_cons.mpr ⟨fun z hz => ?_, insI_rises x r h'.2⟩
      rcases List.mem_cons.mp ((insI_perm x r).mem_iff.mp hz) with rfl | hz
      · omega
      · exact h'.1 z hz
theorem sortI_rises : ∀ l, (sortI l).Pairwise (· ≤ ·)
  | [] => by simp [sortI]
  | x :: r => insI_rises x _ (sortI_rises r)
theorem eq_sortI {ns ns' : List Int} (hp : ns'.Perm ns) (hs : ns'.Pairwise (· ≤ ·)) : ns' = sortI ns :=
  List.Perm.eq_of_pairwise (fun _ _ _ _ a b => Int.le_antisymm a b) hs (sortI_rises ns) (hp.trans (sortI_perm ns).symm)

theorem leS_iff {a b : Str} : leS a b = true ↔ a.cps.toList ≤ b.cps.toList := by
  unfold leS
  simp [List.not_lt]
theorem leS_trans {a b c : Str} (h : leS a b = true) (k : leS b c = true) : leS a c = true := leS_iff.mpr (List.le_trans (leS_iff.mp h) (leS_iff.mp k))
theorem leS_total {a b : Str} (h : ¬ leS a b = true) : leS b a = true := by
  rw [leS_iff] at h ⊢
  exact List.le_of_lt (List.not_le.mp h)
theorem leS_antisymm {a b : Str} (h : leS a b = true) (k : leS b a = true) : a = b := by
  have := List.le_antisymm (leS_iff.mp h) (leS_iff.mp k)
  cases a with | mk a =>
  cases b with | mk b =>
  congr 1
  exact Array.toList_inj.mp this

theorem insS_perm (x : Str) : ∀ l, (insS x l).Perm (x :: l)
  | [] => .refl _
  | y :: r => by
    unfold insS
    split
    · exact .refl _
    · exact ((insS_perm x r).cons y).trans (.swap x y r)
theorem sortS_perm : ∀ l, (sortS l).Perm l
  | [] => .refl _
  | x :: r => (insS_perm x _).trans ((sortS_perm r).cons x)
theorem insS_rises (x : Str) : ∀ l, l.Pairwise (fun a b => leS a b = true) → (insS x l).Pairwise (fun a b => leS a b = true)
  | [], _ => by simp [insS]
  | y :: r, h => by
    have h' := List.pairwise_cons.mp h
    unfold insS
    split
    · rename_i hxy
      refine List.pairwise_cons.mpr ⟨fun z hz => ?_, h⟩
      rcases List.mem_cons.mp hz with rfl | hz
      · exact hxy
      · exact leS_trans hxy (h'.1 z hz)
    · rename_i hxy
      refine List.pairwise_cons.mpr ⟨fun z hz => ?_, insS_rises x r h'.2⟩
      rcases List.mem_cons.mp ((insS_perm x r).mem_iff.mp hz) with rfl | hz
      · exact leS_total hxy
      · exact h'.1 z hz
theorem sortS_rises : ∀ l, (sortS l).Pairwise (fun a b => leS a b = true)
  | [] => by simp [sortS]
  | x :: r => insS_rises x _ (sortS_rises r)
theorem pair_of_rising : ∀ (p : Str) (l : List Str), risingS p l = true → (p :: l).Pairwise (fun a b => leS a b = true)
  | p, [], _ => by simp
  | p, x :: r, h => by
    simp only [risingS, Bool.and_eq_true] at h
    have ih := pair_of_rising x r h.2
    have hx : leS p x = true := by
      have := h.1
      rw [ltCps_eq] at this
      exact this
    refine List.pairwise_cons.mpr ⟨fun z hz => ?_, ih⟩
    rcases List.mem_cons.mp hz with rfl | hz
    · exact hx
    · exact leS_trans hx ((List.pairwise_cons.mp ih).1 z hz)
theorem eq_sortS {ss ss' : List Str} (hp : ss'.Perm ss) (hs : sortedS ss' = true) : ss' = sortS ss := by
  have : ss'.Pairwise (fun a b => leS a b = true) := by
    cases ss' with
    | nil => simp
    | cons p l => exact pair_of_rising p l hs
  exact List.Perm.eq_of_pairwise (fun _ _ _ _ a b => leS_antisymm a b) this (sortS_rises ss) (hp.trans (sortS_perm ss).symm)

section
variable {X : ObjW} {N : Addr → Prop} {h : Heap} {tk : Nat}
theorem strs_len : ∀ {ps : List PV} {vs : List Value} {ss : List Str}, RelVs X N h tk ps vs → asStrs ps = some ss → ∀ x ∈ ss, x.length ≤ big
  | [], _, _, r, e => by simp only [asStrs] at e; cases e; simp
  | .str x g :: r', _, _, r, e => by
    apply r.consC; intro v vs h1 h2 
    apply h1.strC; intro t hl hg 
    simp only [asStrs, Option.map_eq_some_iff] at e
    obtain ⟨ss, e, rfl⟩ := e
    intro y hy
    rcases List.mem_cons.mp hy with rfl | hy
    · exact hl
    · exact strs_len h2 e y hy
  | .none :: _, _, _, _, e => by simp [asStrs] at e
  | .bool _ :: _, _, _, _, e => by simp [asStrs] at e
  | .int _ :: _, _, _, _, e => by simp [asStrs] at e
  | .bytes _ :: _, _, _, _, e => by simp [asStrs] at e
  | .tup _ :: _, _, _, _, e => by simp [asStrs] at e
  | .lst _ :: _, _, _, _, e => by simp [asStrs] at e
  | .dct _ :: _, _, _, _, e => by simp [asStrs] at e
  | .sset _ :: _, _, _, _, e => by simp [asStrs] at e
  | .hdr _ :: _, _, _, _, e => by simp [asStrs] at e
theorem rel_strs : ∀ {vs : List Value} {ss : List Str}, StrsAre vs ss → (∀ x ∈ ss, x.length ≤ big) → RelVs X N h tk (strsV ss) vs
  | _, _, .nil, _ => .nil
  | _, _, .cons x t r, hl => .cons _ _ _ _ (.str x false t (hl x (List.mem_cons_self ..)) fun e => nomatch e) (rel_strs r fun y hy => hl y (List.mem_cons_of_mem _ hy))
theorem rel_ints : ∀ {vs : List Value} {ns : List Int}, IntsAre vs ns → RelVs X N h tk (ns.map .int) vs
  | _, _, .nil => .nil
  | _, _, .cons x t r => .cons _ _ _ _ (.int x t) (rel_ints r)
theorem strsAre_len {vs : List Value} {ss : List Str} : StrsAre vs ss → vs.length = ss.length
  | .nil => rfl
  | .cons _ _ r => by rw [List.length_cons, List.length_cons, strsAre_len r]
end

section
variable {X : ObjW} {N : Addr → Prop} {prog : Program} {w : World} {A : Around} {E : Value → Shared → Prop} {s : Shared}

theorem rel_at {o : Obj} {a : Addr} {h' : Heap} {ps : List PV} {vs : List Value} {n : Nat} {tk tk' : Nat} (ha : s.heap.get? a = none) (nb : ∀ b, N b → (s.heap.get? b).isSome = true) (ho : h'.get? a = some o) (e : o = seqO "list" vs n) (hl : ps.length ≤ big) (r : RelVs X N s.heap tk ps vs)
    (hk : Sub s.heap h') (ht : tk ≤ tk') : RelV X N h' tk' (.lst ps) (.ref a) := by
  subst e
  exact .lst ps a vs n (not_in_of_none nb ha) ho hl (r.keeps hk ht)

theorem sortS_mem {ss : List Str} {x : Str} (h : x ∈ sortS ss) : x ∈ ss := (sortS_perm ss).mem_iff.mp h

theorem itemsOf_strs {x : Str} {acc : Array Value} (h : ItemsOf (SignAt x) acc x.cps.size) : StrsAre acc.toList (charsOf x) := by
  obtain ⟨hs, hi⟩ := h
  have : ∀ (l : List Value) (cs : List Nat), l.length = cs.length → (∀ (i : Nat) (v : Value), l[i]? = some v → ∃ c u, cs[i]? = some c ∧ v = Value.str ⟨#[c]⟩ u) → StrsAre l (cs.map fun c => (⟨#[c]⟩ : Str)) := by
    intro l
    induction l with
    | nil => intro cs e _; cases cs with
      | nil => exact .nil
      | cons => cases e
    | cons v l ih => intro cs e hh; cases cs with
      | nil => cases e
      | cons c cs =>
        obtain ⟨c', u, e1, e2⟩ := hh 0 v rfl
        cases e1; subst e2
        exact .cons _ _ (ih cs (by simpa using e) fun i v hv => hh (i + 1) v hv)
  refine this _ _ (by simpa using hs) fun i v hv => ?_
  have := hi i v (by simpa using hv)
  obtain ⟨c, u, e1, e2⟩ := this
  exact ⟨c, u, by simpa using e1, e2⟩

theorem sorted_str {x : Str} {t : Tok} {Q : Value → Shared → Prop} (hh : A.handled = none) (h64 : x.cps.size < 64)
    (h : ∀ s' b e (out : Array Value) (ss' : List Str), Sub s.heap s'.heap → s'.gens = s.gens → s'.drawn = s.drawn → s'.os = s.os → s.heap.get? b = none → s'.heap.get? b = some (seqObj "list" out e) → StrsAre out.toList ss' → ss'.Perm (charsOf x) → sortedS ss' = true → Q (.ref b) s') :
    wpAny (model prog w) A (call (.builtin "sorted") [.str x t]) Q E s := by
  refine Calls.call_function_entry kind_sorted plain_sorted entry_sorted (args_sorted1 _) ?_
  unfold Builtin.«sorted»
  refine wpAny_bind (m := checkCount "sorted" 1 1 _) (wpAny_pure ?_)
  refine wpAny_bind (m := collect (.str x t)) (wpAny_collect_str (A := A.in1) hh x t (fun s' acc k1 k2 k3 k4 hi => ?_) (by rw [sizeLine_eq]; omega))
  have hS := itemsOf_strs hi
  have hlen : acc.toList.length < 64 := by rw [Array.length_toList, hi.1]; exact h64
  refine wpAny_bind (wpAny_newList ?_ (by rw [sizeLine_eq]; omega))
  have hoL : (s'.heap.push (seqObj "list" acc.toList.toArray 0)).get? s'.heap.objs.size = some (seqObj "list" acc.toList.toArray 0) := Heap.get?_push_size _ rfl
  show wpAny _ _ _ _ _ { s' with heap := s'.heap.push (seqObj "list" acc.toList.toArray 0) }
  refine wpAny_bind (wpAny_holding (wpAny_call_entry slot_list_sort ⟨_, hoL, rfl⟩ entry_list_sort (list_sort_treeK strKind_oneLt hoL hS.keysOf (fun v₁ v₂ rest e => keyKind_strs (by rw [← e]; exact hS)) hlen fun st' hp hs => ⟨_, rfl, ?_⟩) (args_list_sort _)))
  obtain ⟨ss', h1, h2, h3⟩ := sorted_out_str hS hp hs
  obtain ⟨e, he⟩ := sortedHeap_at (out := (arrOf st').map (·.2)) hoL
  have hle : s.heap.get? s'.heap.objs.size = none := by
    cases q : s.heap.get? s'.heap.objs.size with
    | some o => exact absurd (Heap.lt_size (k1 _ _ q)) (Nat.lt_irrefl _)
    | none => rfl
  exact wpAny_pure ⟨_, rfl, h _ _ e _ ss' (fun b o q => by
    have q' := k1 b o q
    have hb := Heap.lt_size q'
    show (sortedHeap _ _ _ _).get? b = some o
    rw [sortedHeap_old (Nat.ne_of_lt hb) (by rw [size_push']; exact Nat.lt_succ_of_lt hb)]
    exact Heap.get?_push_of_some _ q') k2 k3 k4 hle he h1 h2 h3⟩

theorem big_lt {n : Nat} (h : n ≤ big) : (n : Int) < 2 ^ 63 := by unfold big at h; omega
theorem small_big {n : Nat} (h : n < 64) : n ≤ big := Nat.le_trans (Nat.le_of_lt h) (by decide)
theorem builtin1_sound (XO : XOk prog w X) {k : BK} {p r : PV} {v : Value} (hh : A.handled = none) (nb : ∀ b, N b → (s.heap.get? b).isSome = true) (h : builtinV k [p] = some r) (hp : RelB X N s.heap s.toks p v) :
    wpAny (model prog w) A (call (bkVal k) [v]) (Res X N s r) E s := by
  cases k with
  | len => cases p with
    | lst l =>
      obtain rfl := Option.some.inj h
      apply hp.lstC; intro a vs n ho hl hr
      have e := hr.length
      refine call_len_list (islist ho) (by rw [List.size_toArray, ← e]; exact big_lt hl) ⟨KS.tok (Nat.le_add_right s.toks 2), ?_⟩
      rw [List.size_toArray, ← e]; exact .int _ _
    | tup l =>
      obtain rfl := Option.some.inj h
      apply hp.tupC; intro a vs n ho hl hr
      have e := hr.length
      refine len_tuple ⟨_, ho, rfl, n, rfl⟩ (by rw [List.size_toArray, ← e]; exact big_lt hl) ⟨KS.tok (Nat.le_add_right s.toks 2), ?_⟩
      rw [List.size_toArray, ← e]; exact .int _ _
    | str x g =>
      obtain rfl := Option.some.inj h
      apply hp.strC; intro t hl
      exact P.len_str (Int.not_le.mpr (big_lt hl)) ⟨KS.tok (Nat.le_add_right s.toks 2), .int _ _⟩
    | sset l =>
      obtain rfl := Option.some.inj h
      apply hp.ssetC; intro a o ho hd
      exact wp_toks_here (XO.lenS A E s a o _ _ ho hd fun t' tk ht => ⟨KS.tok ht, .int _ _⟩)
    | _ => exact no_some h
  | sum => cases p with
    | lst l =>
      apply hp.lstC; intro a vs n ho hl hr
      obtain ⟨ns, e, h⟩ := Option.bind_eq_some_iff.mp h
      obtain rfl := (if_some h).2
      have hI := intsAre_of hr e
      obtain ⟨xs, hxs⟩ := hI.allInts.items
      refine wp_toks_here (sum_intListG hh (xs := xs) (by rw [← hxs]; exact islist ho) fun h' tk t' hk ht => ⟨⟨h', tk, rfl, hk, ht⟩, ?_⟩)
      have e2 : preSum (numAt xs) xs.size = ns.sum := by
        rw [preSum_eq, List.take_of_length_le (by simp), ← nums_intItems, ← hxs]
        exact congrArg List.sum hI.numsOf
      rw [e2]; exact .int _ _
    | _ => exact no_some h
  | sorted => cases p with
    | lst l =>
      apply hp.lstC; intro a vs n ho hl hr
      by_cases c : decide (l.length < 64) = true
      · have h := h
        change sortedV l = some r at h
        unfold sortedV at h
        rw [if_pos c] at h
        have c := of_decide_eq_true c
        rw [hr.length] at c
        cases e : asInts l with
        | some ns =>
          rw [e] at h
          obtain rfl := Option.some.inj h
          have hI := intsAre_of hr e
          refine sorted_ints (islist ho) hI c fun out ns' h1 h2 h3 => ?_
          obtain rfl := eq_sortI h2 h3
          obtain ⟨e4, he⟩ := sortedAll_at s.heap vs out
          refine ⟨⟨_, s.toks, rfl, fun _ _ => sortedAll_old, Nat.le_refl _⟩, rel_at (none_of_size (Nat.le_succ _)) nb he (vs := out.toList) (n := e4) (by simp [seqObj]) ?_ (rel_ints h1) (fun _ _ => sortedAll_old) (Nat.le_refl _)⟩
          rw [List.length_map, (sortI_perm ns).length_eq, ← hI.length]
          exact small_big c
        | none =>
          rw [e] at h
          obtain ⟨ss, e, rfl⟩ := Option.map_eq_some_iff.mp h
          have hS := strsAre_of hr e
          have hb := strs_len hr e
          refine sorted_strs (islist ho) hS c fun out ss' h1 h2 h3 => ?_
          obtain rfl := eq_sortS h2 h3
          obtain ⟨e4, he⟩ := sortedAll_at s.heap vs out
          refine ⟨⟨_, s.toks, rfl, fun _ _ => sortedAll_old, Nat.le_refl _⟩, rel_at (none_of_size (Nat.le_succ _)) nb he (vs := out.toList) (n := e4) (by simp [seqObj]) ?_ (rel_strs h1 fun x hx => hb x (sortS_mem hx)) (fun _ _ => sortedAll_old) (Nat.le_refl _)⟩
          unfold strsV
          rw [List.length_map, (sortS_perm ss).length_eq, ← strsAre_len hS]
          exact small_big c
      · have h := h
        change sortedV l = some r at h
        unfold sortedV at h
        rw [if_neg c] at h
        exact no_some h
    | str x g =>
      apply hp.strC; intro t hl
      obtain ⟨c, rfl⟩ := if_some h
      have c := of_decide_eq_true c
      refine wp_toks_here (sorted_str hh c fun s' b e out ss' k1 k2 k3 k4 hb ho h1 h2 h3 ht => ?_)
      obtain rfl := eq_sortS h2 h3
      refine ⟨⟨s'.heap, s'.toks, by cases s'; cases s; simp_all, k1, ht⟩, rel_at hb nb ho (vs := out.toList) (n := e) (by simp [seqObj]) ?_ (rel_strs h1 fun y hy => ?_) k1 ht⟩
      · unfold strsV charsOf
        rw [List.length_map, (sortS_perm _).length_eq, List.length_map, Array.length_toList]
        exact small_big c
      · have := sortS_mem hy
        unfold charsOf at this
        obtain ⟨c, _, rfl⟩ := List.mem_map.mp this
        show 1 ≤ big
        decide
    | _ => exact no_some h
  | ord => cases p with
    | str x g =>
      apply hp.strC; intro t hl
      obtain ⟨c, rfl⟩ := if_some h
      exact ord_of_one (by simpa using c) ⟨KS.one s, .int _ _⟩
    | _ => exact no_some h
  | chr => cases p with
    | int i =>
      apply hp.intC; intro t
      obtain ⟨c, rfl⟩ := if_some h
      have c := Bool.and_eq_true_iff.mp c
      exact chr_of_range (of_decide_eq_true c.1) (by have := of_decide_eq_true c.2; omega) ⟨KS.one s, .str _ _ _ (by show 1 ≤ big; decide) fun e => nomatch e⟩
    | _ => exact no_some h
  | abs => cases p with
    | int i =>
      apply hp.intC; intro t
      obtain rfl := Option.some.inj h
      exact wp_toks_here (call_abs_int fun u tk ht => ⟨KS.tok ht, .int _ _⟩)
    | _ => exact no_some h
  | int => cases p with
    | int i =>
      apply hp.intC; intro t
      obtain rfl := Option.some.inj h
      exact call_int_int ⟨KS.refl s, .int _ _⟩
    | _ => exact no_some h
  | _ => exact no_some h

theorem builtinN_sound {k : BK} {ps : List PV} {r : PV} {vs : List Value} (hne : ps.length ≠ 1) (nb : ∀ b, N b → (s.heap.get? b).isSome = true) (h : builtinV k ps = some r) (hp : RelVs X N s.heap s.toks ps vs) :
    wpAny (model prog w) A (call (bkVal k) vs) (Res X N s r) E s := by
  cases ps with
  | nil => exact no_some h
  | cons p ps => cases ps with
    | nil => exact absurd rfl hne
    | cons q ps => cases ps with
      | cons => exact no_some h
      | nil => cases k with
        | divmod => cases p with
          | int a => cases q with
            | int b =>
              obtain ⟨c, rfl⟩ := if_some h
              have c := divI_ne c
              apply hp.consC; intro v vs h1 hp
              apply hp.consC; intro v' vs h2 hp
              apply hp.nilC
              apply h1.intC; intro t
              apply h2.intC; intro t'
              exact divmod_int c.1 ⟨⟨_, s.toks + 1 + 1, rfl, fun _ _ e => Heap.get?_push_of_some _ e, Nat.le_add_right s.toks 2⟩, RelV.newTuple nb (by show 2 ≤ big; decide) (.cons _ _ _ _ (.int _ _) (.cons _ _ _ _ (.int _ _) .nil)) rfl (Nat.le_add_right s.toks 2)⟩ (.inl (PyProof.noPylong_small c.2))
            | _ => exact no_some h
          | _ => exact no_some h
        | _ => exact no_some h
end
end Mine
end

section
set_option maxHeartbeats 1000000
open PySem PySem.Calls PyProof.Rows PySem.Spec PySem.Builtin PySem.Builtin.Str
namespace Mine

theorem args_find4 (a b c d : Value) : argsOk "str.find" ⟨[a, b, c, d], []⟩ := by unfold argsOk; kernel_rfl

theorem gives_find4 (x y : Str) (i j : Int) (t u v v' : Tok) (h0 : 0 ≤ i) (h1 : 0 ≤ j) : Gives («str.find» ⟨[.str x t, .str y u, .int i v, .int j v'], []⟩) (.int (findV x y i j)) := by
  have e1 : (max 0 (if i < 0 then i + x.length else i)).toNat = i.toNat := by rw [if_neg (by omega)]; congr 1; omega
  have e2 : (max 0 (if j < 0 then j + x.length else j)).toNat = j.toNat := by rw [if_neg (by omega)]; congr 1; omega
  show Gives (match occurrences x y (max 0 (if i < 0 then i + x.length else i)).toNat (min (max 0 (if j < 0 then j + x.length else j)).toNat x.length) 1 with | k :: _ => retInt k | [] => (do rule "str.find.not-found"; retInt (-1))) _
  rw [e1, e2]
  unfold findV
  cases occurrences x y i.toNat (min j.toNat x.length) 1 with
  | nil => exact .rule (.of_eq rfl)
  | cons k _ => exact .of_eq rfl

theorem strsAre_values : ∀ {vs : List Value} {ss : List Str}, StrsAre vs ss → ∃ l, vs = strValues l ∧ l.map (·.1) = ss
  | _, _, .nil => ⟨[], rfl, rfl⟩
  | _, _, .cons x t r => let ⟨l, e1, e2⟩ := strsAre_values r; ⟨(x, t) :: l, by rw [e1]; rfl, by rw [← e2]; rfl⟩

noncomputable def nameOf : MK → Str
  | .join => "join" | .split => "split" | .startswith => "startswith" | .endswith => "endswith" | .find => "find" | .replace => "replace" | .lower => "lower" | .upper => "upper"
  | .index => "index" | .get => "get" | .keys => "keys" | .items => "items" | .append => "append"
theorem mkOf_name {m : Str} {k : MK} (h : mkOf m = some k) : m = nameOf k := by
  have := mem_of_lookup h
  simp only [List.mem_cons, List.not_mem_nil, or_false, Prod.mk.injEq] at this
  rcases this with ⟨rfl, rfl⟩ | ⟨rfl, rfl⟩ | ⟨rfl, rfl⟩ | ⟨rfl, rfl⟩ | ⟨rfl, rfl⟩ | ⟨rfl, rfl⟩ | ⟨rfl, rfl⟩ | ⟨rfl, rfl⟩ | ⟨rfl, rfl⟩ | ⟨rfl, rfl⟩ | ⟨rfl, rfl⟩ | ⟨rfl, rfl⟩ | ⟨rfl, rfl⟩ <;> rfl

theorem ascii_of {x : Str} (h : asciiS x = true) : ∀ c ∈ x.cps.toList, c < 128 := fun c hc => by
  unfold asciiS at h
  exact of_decide_eq_true (List.all_eq_true.mp h c hc)
theorem upper_eq {x : Str} (h : asciiS x = true) : Txt.upper x = upS x := by
  rw [upper_ascii (ascii_of h)]
  unfold upS
  congr 1
  apply Array.toList_inj.mp
  rw [Array.toList_map]
  show _ = x.cps.toList.map upC
  rfl
theorem lower_eq {x : Str} (h : asciiS x = true) : Txt.lower x = loS x := by
  rw [lower_ascii (ascii_of h)]
  unfold loS
  congr 1
  apply Array.toList_inj.mp
  rw [Array.toList_map]
  show _ = x.cps.toList.map loC
  rfl
theorem upS_length (x : Str) : (upS x).length = x.length := by simp [upS, Str.length]
theorem loS_length (x : Str) : (loS x).length = x.length := by simp [loS, Str.length]

theorem isStrOf_at (k : Str) : ∀ {vs : List Value} {ys : List Str}, StrsAre vs ys → ∀ (j : Nat) (h1 : j < vs.length) (h2 : j < ys.length), isStrOf k vs[j] = (ys[j] == k)
  | _, _, .cons n t _, 0, _, _ => rfl
  | _, _, .cons n t r, j + 1, h1, h2 => isStrOf_at k r j (Nat.lt_of_succ_lt_succ h1) (Nat.lt_of_succ_lt_succ h2)

section
variable {X : ObjW} {N : Addr → Prop} {prog : Program} {w : World} {s : Shared}

/-- a method of a text or a list: how it is looked up, and what a call gives -/
noncomputable def MethOk (prog : Program) (w : World) (X : ObjW) (N : Addr → Prop) (s : Shared) (m : Str) (v : Value) (ps : List PV) (r : PV) : Prop :=
  ∃ id : String, (∀ (A : Around) (E : Value → Shared → Prop) (pl : Sem Bool) (Q : Value × List Value → Shared → Prop), Q (.builtin id, [v]) s → wpAny (model prog w) A (getMethod v m pl) Q E s) ∧
    ∀ (A : Around) (E : Value → Shared → Prop) (s' : Shared) (vs : List Value), KS s s' → RelVs X N s'.heap s'.toks ps vs → wpAny (model prog w) A (call (.builtin id) (v :: vs)) (Res X N s' r) E s'

theorem str1C {D : List Value → Prop} {h : Heap} {tk : Nat} {ps : List PV} {vs : List Value} {y : Str} (e : str1 ps = some y) (r : RelVs X N h tk ps vs) (k : ∀ t : Tok, y.length ≤ big → D [.str y t]) : D vs := by
  cases ps with
  | nil => exact no_some e
  | cons p ps => cases p with
    | str x g => cases ps with
      | nil =>
        obtain rfl := Option.some.inj e
        apply r.consC; intro v vs h1 h2
        apply h2.nilC
        apply h1.strC; intro t hl _
        exact k t hl
      | cons => exact no_some e
    | _ => exact no_some e
theorem lst1C {D : List Value → Prop} {h : Heap} {tk : Nat} {ps : List PV} {vs : List Value} {l : List PV} (e : lst1 ps = some l) (r : RelVs X N h tk ps vs) (k : ∀ (a : Addr) (us : List Value) (n : Nat), h.get? a = some (seqO "list" us n) → RelVs X N h tk l us → D [.ref a]) : D vs := by
  cases ps with
  | nil => exact no_some e
  | cons p ps => cases p with
    | lst x => cases ps with
      | nil =>
        obtain rfl := Option.some.inj e
        apply r.consC; intro v vs h1 h2
        apply h2.nilC
        apply h1.lstC; intro a us n _ ho _ hr
        exact k a us n ho hr
      | cons => exact no_some e
    | _ => exact no_some e
theorem int2C {D : List Value → Prop} {h : Heap} {tk : Nat} {ps : List PV} {vs : List Value} {y : Int × Int} (e : int2 ps = some y) (r : RelVs X N h tk ps vs) (k : ∀ t u : Tok, D [.int y.1 t, .int y.2 u]) : D vs := by
  cases ps with
  | nil => exact no_some e
  | cons p ps => cases p with
    | int i => cases ps with
      | nil => exact no_some e
      | cons q ps => cases q with
        | int j => cases ps with
          | nil =>
            obtain rfl := Option.some.inj e
            apply r.consC; intro v vs h1 r
            apply r.consC; intro v vs h2 r
            apply r.nilC
            apply h1.intC; intro t
            apply h2.intC; intro u
            exact k t u
          | cons => exact no_some e
        | _ => exact no_some e
    | _ => exact no_some e
theorem find3C {D : List Value → Prop} {h : Heap} {tk : Nat} {ps : List PV} {vs : List Value} {s : Str} {r : PV} (e : find3 s ps = some r) (hr : RelVs X N h tk ps vs) (k : ∀ (y : Str) (i j : Int) (t u u' : Tok), 0 ≤ i → 0 ≤ j → r = .int (findV s y i j) → D [.str y t, .int i u, .int j u']) : D vs := by
  cases ps with
  | nil => exact no_some e
  | cons p ps => cases p with
    | str y g =>
      obtain ⟨ij, e1, e⟩ := Option.bind_eq_some_iff.mp e
      have c := if_some e
      have c1 := Bool.and_eq_true_iff.mp (Bool.and_eq_true_iff.mp (Bool.and_eq_true_iff.mp c.1).1).1
      apply hr.consC; intro v vs h1 hr
      apply h1.strC; intro t _ _
      apply int2C e1 hr; intro u u'
      exact k y _ _ t u u' (of_decide_eq_true c1.1) (of_decide_eq_true c1.2) c.2.symm
    | _ => exact no_some e

theorem index_sound {l : List PV} {y : Str} {ps : List PV} {ss : List Str} {j : Nat} {v : Value} (ey : str1 ps = some y) (e : asStrs l = some ss) (hj : ss.findIdx? (· == y) = some j) (hp : RelV X N s.heap s.toks (.lst l) v) : MethOk prog w X N s "index" v ps (.int j) := by
  apply hp.lstC; intro a vs n hN ho hl hr
  refine ⟨"list.index", fun A E pl Q hq => getMethod_list_of PySem.F.slot_list_index PySem.F.type_list_index (islist ho) ⟨_, ho, rfl⟩ hq, fun A E s' us hk hv => ?_⟩
  apply str1C ey hv; intro t hly
  have hS := strsAre_of hr e
  have hlen := strsAre_len hS
  have hlen2 := hr.length
  obtain ⟨j1, j2, j3⟩ := List.findIdx?_eq_some_iff_getElem.mp hj
  have eb : big = 1000000 := rfl
  refine call_meets PySem.F.slot_list_index ⟨_, hk.sub _ _ ho, rfl⟩ PySem.F.entry_list_index (PySem.F.args_list_index_2 _ _)
    (PySem.SeqAt.list_indexAt a vs.toArray n none #[] (.str y t) (isStrOf y) j (by simp; omega) (by omega) ?_ ?_) ⟨hk.sub _ _ ho, fun z hz => (eq_isStrOf y t hS z (by simpa using hz)).at _ _, ⟨KS.one _, .int _ _⟩⟩
  · show isStrOf y vs[j] = true
    rw [isStrOf_at y hS _ (by omega) j1]
    exact j2
  · intro i hi hlt
    show isStrOf y vs[i] = false
    rw [isStrOf_at y hS _ (by simpa using hi) (by omega)]
    simpa using j3 i hlt

theorem low_line {n : Nat} (h : n ≤ big) : tooLong n = false := by
  unfold big at h
  unfold tooLong
  rw [sizeLine_eq]
  exact decide_eq_false (by omega)

theorem methV_sound {m : Str} {k : MK} {p r : PV} {ps : List PV} {v : Value} (hm : mkOf m = some k) (h : methV p k ps = some r) (hn : ∀ l, p ≠ .hdr l) (hp : RelV X N s.heap s.toks p v) : MethOk prog w X N s m v ps r := by
  have hm := mkOf_name hm
  subst hm
  cases p with
  | str x g =>
    have h : methS x k ps = some r := h
    apply hp.strC; intro t hl hg
    cases k with
    | join =>
      refine ⟨"str.join", fun A E pl Q hq => GM.join hq, fun A E s' vs hk hv => ?_⟩
      obtain ⟨l, el, h⟩ := Option.bind_eq_some_iff.mp h
      apply lst1C el hv; intro a us n ho hr
      obtain ⟨ss, e, h⟩ := Option.bind_eq_some_iff.mp h
      by_cases hj : JoinOk x ss
      · rw [if_pos hj] at h
        obtain ⟨rfl, hlen⟩ := mkS_some h
        obtain ⟨l, rfl, e2⟩ := strsAre_values (strsAre_of hr e)
        exact wp_toks_here (SC.join (islist ho) e2 hj fun t' k ht => ⟨KS.tok ht, .str _ _ _ (Nat.le_trans hlen lim_big) fun e => nomatch e⟩)
      · rw [if_neg hj] at h; exact no_some h
    | startswith =>
      refine ⟨"str.startswith", fun A E pl Q hq => GM.startswith hq, fun A E s' vs hk hv => ?_⟩
      obtain ⟨y, ey, rfl⟩ := Option.map_eq_some_iff.mp h
      apply str1C ey hv; intro t hly
      exact SC.startswith ⟨KS.refl _, .bool _⟩
    | endswith =>
      refine ⟨"str.endswith", fun A E pl Q hq => GM.endswith hq, fun A E s' vs hk hv => ?_⟩
      obtain ⟨y, ey, rfl⟩ := Option.map_eq_some_iff.mp h
      apply str1C ey hv; intro t hly
      exact SC.endswith ⟨KS.refl _, .bool _⟩
    | find =>
      refine ⟨"str.find", fun A E pl Q hq => GM.find hq, fun A E s' vs hk hv => ?_⟩
      apply find3C h hv
      rintro y i j t u u' h1 h2 rfl
      exact call_gives PySem.F.slot_str_find (typeIs_str _ _ _) PySem.F.entry_str_find (args_find4 _ _ _ _) (gives_find4 _ _ _ _ _ _ _ _ h1 h2) ⟨KS.one _, .int _ _⟩
    | lower => cases ps with
      | nil =>
        obtain ⟨c, rfl⟩ := if_some h
        refine ⟨"str.lower", fun A E pl Q hq => GM.lower hq, fun A E s' vs hk hv => ?_⟩
        apply hv.nilC
        refine SC.lower (by rw [lower_eq c, loS_length]; exact low_line hl) ?_
        rw [lower_eq c]
        exact ⟨KS.one _, .str _ _ _ (by rw [loS_length]; exact hl) fun e => nomatch e⟩
      | cons => exact no_some h
    | upper => cases ps with
      | nil =>
        obtain ⟨c, rfl⟩ := if_some h
        refine ⟨"str.upper", fun A E pl Q hq => GM.upper hq, fun A E s' vs hk hv => ?_⟩
        apply hv.nilC
        refine SC.upper (by rw [upper_eq c, upS_length]; exact low_line hl) ?_
        rw [upper_eq c]
        exact ⟨KS.one _, .str _ _ _ (by rw [upS_length]; exact hl) fun e => nomatch e⟩
      | cons => exact no_some h
    | _ => exact no_some h
  | lst l => cases k with
    | index =>
      obtain ⟨y, ey, h⟩ := Option.bind_eq_some_iff.mp h
      obtain ⟨ss, e, h⟩ := Option.bind_eq_some_iff.mp h
      obtain ⟨j, hj, rfl⟩ := Option.map_eq_some_iff.mp h
      exact index_sound ey e hj hp
    | _ => exact no_some h
  | hdr l => exact absurd rfl (hn _)
  | _ => exact no_some h

theorem replace_sound {A : Around} {E : Value → Shared → Prop} {x y z : Str} {t u u' : Tok} (hx : x.length ≤ lim) (hr : (Txt.replace x y z).length ≤ lim) (hy : y.length = 1) (hz : z.length = 0) (hu : u ≠ 0) (hu' : u' ≠ 0) (huu : u ≠ u') :
    wpAny (model prog w) A (call (.builtin "str.replace") [.str x t, .str y u, .str z u']) (Res X N s (.str (Txt.replace x y z) false)) E s := by
  have el : lim = 100000 := rfl
  have eb : big = 1000000 := rfl
  have hyz : (y == z) = false := by
    rw [beq_eq_false_iff_ne]
    rintro rfl
    omega
  refine wp_toks_here (SC.replace hu hu' huu hyz (by rw [hz]; omega) fun t' k ht => ⟨KS.tok ht, .str _ _ _ ?_ fun e => nomatch e⟩)
  omega
end
end Mine
end

section
set_option maxHeartbeats 1000000
open PySem PySem.Calls PyProof.Rows PySem.Spec PySem.Builtin PySem.Builtin.Str
namespace Mine

noncomputable def isBad : Expr → Bool
  | .Starred .. => true
  | .Set .. => true
  | _ => false

noncomputable def isComp : Expr → Bool
  | .ListComp .. => true
  | .SetComp .. => true
  | .DictComp .. => true
  | _ => false

section
variable (prog : Program) (w : World) (X : ObjW) (G : GCtx) (mg mb : Str → Option Value)

structure Snd (ev : Ev) (n : Nat) : Prop where
  noE : ∀ sc ε e, isBad e = true → ev.E sc ε e = none
  E : ∀ (A : Around) (E : Value → Shared → Prop) (s : Shared) (N W : Addr → Prop) (env : Env) (ε : LEnv) (e : Expr) (p : PV), Room n A → Gnd X G mg mb s.heap → EnvAt X N W s.heap s.toks env ε → ev.E env.scope ε e = some p →
    wpAny (model prog w) A (eval e env) (Res X N s p) E s
  U : ∀ (A : Around) (E : Value → Shared → Prop) (s : Shared) (N W : Addr → Prop) (env : Env) (ε : LEnv) (e : Expr) (p : PV) (u : Value → Sem Unit) (Q : Unit → Shared → Prop), Room n A → Gnd X G mg mb s.heap → EnvAt X N W s.heap s.toks env ε → isComp e = true → ev.E env.scope ε e = some p →
    (∀ v s₁ C, KS s s₁ → s.heap.get? C = none → (s₁.heap.get? C).isSome = true → RelV X (fun b => N b ∨ b = C) s₁.heap s₁.toks p v → wpAny (model prog w) A (u v) (fun _ s₂ => (∀ o, s₁.heap.get? C = some o → s₂.heap.get? C = some o) ∧ ∀ h', Heap.SameBut C s₂.heap h' → Q () { s₂ with heap := h' }) E s₁) →
    wpAny (model prog w) A (evalThenUse e env u) Q E s
  T : ∀ (A : Around) (E : Value → Shared → Prop) (s : Shared) (N W : Addr → Prop) (env : Env) (ε : LEnv) (e : Expr) (b : Bool), Room n A → Gnd X G mg mb s.heap → EnvAt X N W s.heap s.toks env ε → ev.T env.scope ε e = some b →
    wpAny (model prog w) A (isTrue e env (eval e env)) (ResB s b) E s
  S : ∀ (A : Around) (E : Value → Shared → Prop) (s : Shared) (N W : Addr → Prop) (env : Env) (ε : LEnv) (ss : List Stmt) (ε' : LEnv) (fl : Fl) (h₀ : Heap), Room n A → Gnd X G mg mb h₀ → Sub h₀ s.heap → (∀ b, W b → h₀.get? b = none) → EnvS X N W s.heap s.toks env ε → ev.S env.scope ε ss = some (ε', fl) →
    wpAny (model prog w) A (execs ss env) (fun f s' => Ends X N W s env ε' fl f s') E s
  F : ∀ (A : Around) (E : Value → Shared → Prop) (s : Shared) (N : Addr → Prop) (x : Str) (fi : FnI) (a : Addr) (ps : List PV) (vs : List Value) (r : PV), Room n A → Gnd X G mg mb s.heap → 0 < s.toks → (∀ b, N b → (s.heap.get? b).isSome = true) →
    G.fns.lookup x = some fi → FnAt s.heap x fi a → ev.F x ps = some r → RelVs X N s.heap s.toks ps vs → wpAny (model prog w) A (call (.ref a) vs) (Res X N s r) E s
end

section
variable {prog : Program} {w : World} {X : ObjW} {G : GCtx} {mg mb : Str → Option Value} {ev : Ev} {n : Nat}
variable {A : Around} {E : Value → Shared → Prop} {s : Shared} {N W : Addr → Prop} {env : Env} {ε : LEnv}

theorem Res.from {s₁ : Shared} {p : PV} (k : KS s s₁) {t : Sem Value} (h : wpAny (model prog w) A t (Res X N s₁ p) E s₁) : wpAny (model prog w) A t (Res X N s p) E s₁ :=
  wpAny_mono h (fun _ _ q => ⟨k.trans q.1, q.2⟩) fun _ _ q => q
theorem ResB.from {s₁ : Shared} {b : Bool} (k : KS s s₁) {t : Sem Bool} (h : wpAny (model prog w) A t (ResB s₁ b) E s₁) : wpAny (model prog w) A t (ResB s b) E s₁ :=
  wpAny_mono h (fun _ _ q => ⟨k.trans q.1, q.2⟩) fun _ _ q => q

theorem Gnd.ks (XO : XOk prog w X) {s' : Shared} (g : Gnd X G mg mb s.heap) (k : KS s s') : Gnd X G mg mb s'.heap := g.keeps XO.baseK k.sub
theorem EnvAt.ks {s' : Shared} (e : EnvAt X N W s.heap s.toks env ε) (k : KS s s') : EnvAt X N W s'.heap s'.toks env ε := e.keeps k.sub k.toks
theorem RelV.ks {s' : Shared} {p : PV} {v : Value} (r : RelV X N s.heap s.toks p v) (k : KS s s') : RelV X N s'.heap s'.toks p v := r.keeps k.sub k.toks
theorem RelVs.ks {s' : Shared} {p : List PV} {v : List Value} (r : RelVs X N s.heap s.toks p v) (k : KS s s') : RelVs X N s'.heap s'.toks p v := r.keeps k.sub k.toks

theorem starEach_cons {e : Expr} {rest : List Expr} (h : isBad e = false) : starEach (e :: rest) env = (false, eval e env) :: starEach rest env := by
  cases e <;> first | rfl | exact no_tf h

theorem notBad (S : Snd prog w X G mg mb ev n) {sc : Scope} {e : Expr} {p : PV} (h : ev.E sc ε e = some p) : isBad e = false := by
  cases hb : isBad e with
  | false => rfl
  | true => rw [S.noE sc ε e hb] at h; cases h

theorem evs_plain (S : Snd prog w X G mg mb ev n) {sc : Scope} {pos : Pos} : ∀ {es : List Expr} {ps : List PV}, evs ev sc ε es = some ps → (backTo pos (starEach es env)).any (·.1) = false ∧ ps.length = es.length
  | [], ps, h => by cases h; exact ⟨rfl, rfl⟩
  | e :: r, ps, h => by
    simp only [evs, Option.bind_eq_some_iff, Option.map_eq_some_iff] at h
    obtain ⟨p, hp, qs, hq, rfl⟩ := h
    have := evs_plain S (pos := pos) hq
    rw [starEach_cons (notBad S hp)]
    exact ⟨this.1, by rw [List.length_cons, List.length_cons, this.2]⟩

theorem evs_sound (XO : XOk prog w X) (S : Snd prog w X G mg mb ev n) (hR : Room n A) {pos : Pos} : ∀ {es : List Expr} {ps : List PV} {s : Shared}, Gnd X G mg mb s.heap → EnvAt X N W s.heap s.toks env ε → evs ev env.scope ε es = some ps →
    wpAny (model prog w) A (spliced (backTo pos (starEach es env))) (fun vs s' => KS s s' ∧ RelVs X N s'.heap s'.toks ps vs) E s
  | [], ps, s, g, e, h => by cases h; exact wpAny_items_nil ⟨KS.refl s, .nil⟩
  | x :: r, ps, s, g, e, h => by
    simp only [evs, Option.bind_eq_some_iff, Option.map_eq_some_iff] at h
    obtain ⟨p, hp, qs, hq, rfl⟩ := h
    refine wpAny_items_cons (wpAny_mono (S.E A E s N W env ε x p hR g e hp) (fun v s₁ h₁ => ?_) fun _ _ q => q) (starEach_cons (notBad S hp))
    refine wpAny_mono (evs_sound XO S hR (g.ks XO h₁.1) (e.ks h₁.1) hq) (fun vs s₂ h₂ => ?_) fun _ _ q => q
    exact ⟨h₁.1.trans h₂.1, .cons _ _ _ _ (h₁.2.ks h₂.1) h₂.2⟩

theorem isNm_eq {z : Str} {x : Expr} (h : isNm z x = true) : ∃ px, x = .Name z px := by
  cases x with
  | Name y px => obtain rfl : z = y := by simpa using (show (z == y) = true from h)
                 exact ⟨px, rfl⟩
  | _ => exact no_ft h
theorem brw_sound (S : Snd prog w X G mg mb ev n) (hR : Room n A) {x : Expr} {p : PV} (g : Gnd X G mg mb s.heap) (e : EnvAt X N W s.heap s.toks env ε) (h : brw ev env.scope ε x = some p) :
    wpAny (model prog w) A (eval x env) (fun v s' => KS s s' ∧ RelB X N s'.heap s'.toks p v) E s := by
  have plain : ev.E env.scope ε x = some p → wpAny (model prog w) A (eval x env) (fun v s' => KS s s' ∧ RelB X N s'.heap s'.toks p v) E s :=
    fun h => wpAny_mono (S.E A E s N W env ε x p hR g e h) (fun v s₁ h₁ => ⟨h₁.1, .inl h₁.2⟩) fun _ _ q => q
  unfold brw at h
  cases ho : ε.own with
  | none => rw [ho] at h; exact plain h
  | some zl =>
    obtain ⟨z, l⟩ := zl
    rw [ho] at h
    have h : (if isNm z x then some (PV.lst l) else ev.E env.scope ε x) = some p := h
    by_cases hx : isNm z x = true
    · rw [if_pos hx] at h
      obtain rfl := Option.some.inj h
      obtain ⟨px, rfl⟩ := isNm_eq hx
      obtain ⟨k, kd, a, m, vs, hv, hw, hg, hl, hr⟩ := e.own z l ho
      exact wpAny_Name (load_var e.kind hv ⟨KS.refl s, .inr ⟨l, a, vs, m, rfl, rfl, hg, hl, hr⟩⟩) kd
    · rw [if_neg hx] at h; exact plain h
theorem brw_bad (S : Snd prog w X G mg mb ev n) {sc : Scope} {x : Expr} {p : PV} (h : brw ev sc ε x = some p) : isBad x = false := by
  cases hb : isBad x with
  | false => rfl
  | true =>
    unfold brw at h
    cases ho : ε.own with
    | none => rw [ho] at h; exact no_some ((S.noE sc ε x hb).symm.trans h)
    | some zl =>
      rw [ho] at h
      have h : (if isNm zl.1 x then some (PV.lst zl.2) else ev.E sc ε x) = some p := h
      by_cases hx : isNm zl.1 x = true
      · obtain ⟨px, rfl⟩ := isNm_eq hx
        exact no_ft hb
      · rw [if_neg hx] at h; exact no_some ((S.noE sc ε x hb).symm.trans h)

theorem call_any {f : Value} {first : List Value} {pos : Pos} {args : List Expr} {ps : List PV} {Q : Value → Shared → Prop} {P : Heap → Prop} (XO : XOk prog w X) (S : Snd prog w X G mg mb ev n) (hR : Room n A)
    (hk : ∀ h, P h → ∃ k, (k = Keeper.frame ∨ k = Keeper.machine ∨ k = Keeper.boundFrame) ∧ PySem.W.Looks (model prog w) h (keeperOf f) k) (g : Gnd X G mg mb s.heap) (e : EnvAt X N W s.heap s.toks env ε)
    (h : evs ev env.scope ε args = some ps) (hP : ∀ s', KS s s' → P s'.heap) (hc : ∀ s' vs, KS s s' → RelVs X N s'.heap s'.toks ps vs → wpAny (model prog w) A (call f (first ++ vs)) Q E s') :
    wpAny (model prog w) A (callWith pos f first (backTo pos (starEach args env)) []) Q E s := by
  have hpl := (evs_plain S (sc := env.scope) (pos := pos) (env := env) h).1
  refine PySem.W.callWith_of (P := P) (by rw [hpl]; rfl) hk ?_
  have go := evs_sound (E := E) XO S hR (pos := pos) g e h
  cases args with
  | nil => 
    refine PyProof.Rows.evalArgs_nil3 ⟨hP s (KS.refl s), ?_⟩
    cases h
    exact hc s [] (KS.refl s) .nil
  | cons x r =>
    simp only [evs, Option.bind_eq_some_iff, Option.map_eq_some_iff] at h
    obtain ⟨p, hp, qs, hq, rfl⟩ := h
    rw [starEach_cons (notBad S hp)] at go ⊢
    exact evalArgs_plain (wpAny_mono go (fun vs s₁ h₁ => ⟨hP s₁ h₁.1, hc s₁ vs h₁.1 h₁.2⟩) fun _ _ q => q)

theorem base_of {o : Expr} {m : Str} (h : notSuper o = true) (whole : Sem Value) : attributeBase o m env whole = whole := by
  cases o with
  | Call f args kws pos => cases f with
    | Name id p => cases args with
      | nil => cases kws with
        | nil =>
          have h : (!(id == ("super" : Str))) = true := h
          have h : (id != ("super" : Str)) = true := h
          unfold attributeBase
          simp only [h, Bool.true_or, if_true]
        | cons => rfl
      | cons => rfl
    | _ => rfl
  | _ => rfl

theorem method_any {o : Expr} {m : Str} {ap pos : Pos} {args : List Expr} {Q : Value → Shared → Prop} (hl : args.length < 30) (hp : (backTo pos (starEach args env)).any (·.1) = false) (hc : (ap.endLine == pos.line && notSuper o) = true)
    (h : wpAny (model prog w) A (eval o env) (fun ov s₁ => ∀ pl, wpAny (model prog w) A (getMethod ov m pl) (fun fx s₂ => wpAny (model prog w) A (callWith pos fx.1 fx.2 (backTo pos (starEach args env)) []) Q E s₂) E s₁) E s) :
    wpAny (model prog w) A (eval (.Call (.Attribute o m ap) args [] pos) env) Q E s := by
  rw [Bool.and_eq_true] at hc
  rw [arm_eval_Call, base_of hc.2]
  refine wpAny_bind (wpAny_mono h (fun ov s₁ h₁ => ?_) fun _ _ e => e)
  refine wpAny_bind (wpAny_standAt ?_)
  have hform : methodCallForm (args.length + ([] : List Keyword).length) (backTo pos (starEach args env)) (backToKw pos (keywordEach [] env)) = true := by
    unfold methodCallForm
    have : (backTo pos (starEach args env)).all (fun x => !x.1) = true := by
      rw [List.all_eq_true]
      intro x hx
      have := List.any_eq_false.mp hp x hx
      simpa using this
    rw [this]
    have : (backToKw pos (keywordEach [] env)) = [] := rfl
    rw [this]
    simp
    omega
  have hpos : methodCallPos true o env ap pos = pure pos := by unfold methodCallPos; simp [hc.1]
  unfold methodCall
  rw [hform]
  refine wpAny_bind (wpAny_holding ?_)
  refine wpAny_mono (h₁ _) (fun fx s₂ h₂ => ?_) fun _ _ q => q
  exact wpAny_bind (wpAny_of_eq hpos h₂)
end
end Mine
end

section
set_option maxHeartbeats 1000000
open PySem PySem.Calls PyProof.Rows PySem.Spec PySem.Builtin PySem.Builtin.Str
namespace Mine

section
variable {prog : Program} {w : World} {X : ObjW} {G : GCtx} {mg mb : Str → Option Value} {ev : Ev} {n : Nat}
variable {A : Around} {E : Value → Shared → Prop} {s : Shared} {N W : Addr → Prop} {env : Env} {ε : LEnv}

theorem glob_of {sc : Scope} {x : Str} (h : glob sc x = true) : sc.names.lookup x = some .globalImplicit ∧ (x == ("__debug__" : Str)) = false := by
  unfold glob at h
  rw [Bool.and_eq_true] at h
  exact ⟨by simpa using h.1, by simpa using h.2⟩

theorem load_fn {g : Str} {pos : Pos} {v : Value} {Q : Value → Shared → Prop} (gn : Gnd X G mg mb s.heap) (e : EnvAt X N W s.heap s.toks env ε) (hg : glob env.scope g = true) (hv : mg g = some v) (h : Q v s) :
    wpAny (model prog w) A (eval (.Name g pos) env) Q E s :=
  Name_function_global e.kind (glob_of hg).1 (loadGlobal_global (by rw [e.glo]; exact gn.g) hv h) (glob_of hg).2
theorem load_bi {g : Str} {pos : Pos} {k : BK} {Q : Value → Shared → Prop} (gn : Gnd X G mg mb s.heap) (e : EnvAt X N W s.heap s.toks env ε) (hg : glob env.scope g = true) (hk : bkOf g = some k) (hf : G.fns.lookup g = none) (h : Q (bkVal k) s) :
    wpAny (model prog w) A (eval (.Name g pos) env) Q E s :=
  Name_function_global e.kind (glob_of hg).1 (loadGlobal_builtin (by rw [e.glo]; exact gn.g) (gn.bi g k hk hf).1 (by rw [e.bui]; exact gn.b) (gn.bi g k hk hf).2 h) (glob_of hg).2

theorem keeper_bk (k : BK) (h : Heap) : ∃ q, (q = Keeper.frame ∨ q = Keeper.machine ∨ q = Keeper.boundFrame) ∧ PySem.W.Looks (model prog w) h (keeperOf (bkVal k)) q :=
  ⟨.machine, .inr (.inl rfl), PySem.W.Looks.of_pure (by cases k <;> rfl)⟩
theorem keeper_fn {x : Str} {fi : FnI} {a : Addr} (h : Heap) (q : FnAt h x fi a) : ∃ q, (q = Keeper.frame ∨ q = Keeper.machine ∨ q = Keeper.boundFrame) ∧ PySem.W.Looks (model prog w) h (keeperOf (.ref a)) q := by
  obtain ⟨o, args, pm, code, doc, h1, h2, _⟩ := q
  refine ⟨.frame, .inl rfl, fun A Q E s k q => ?_⟩
  unfold keeperOf
  refine wpAny_bind (wpAny_load (k _ _ h1) ?_)
  rw [h2]
  exact wpAny_pure q

theorem call_bk (XO : XOk prog w X) (S : Snd prog w X G mg mb ev n) (hR : Room n A) {k : BK} {args : List Expr} {p : PV} {pos : Pos} (g : Gnd X G mg mb s.heap) (e : EnvAt X N W s.heap s.toks env ε) (h : callB ev k env.scope ε args = some p) :
    wpAny (model prog w) A (callWith pos (bkVal k) [] (backTo pos (starEach args env)) []) (Res X N s p) E s := by
  cases args with
  | nil => exact no_some h
  | cons a r => cases r with
    | nil =>
      obtain ⟨q, hq, h⟩ := Option.bind_eq_some_iff.mp h
      have hb := brw_bad S hq
      refine PySem.W.callWith_of (P := fun _ => True) (by rw [starEach_cons hb]; rfl) (fun h _ => keeper_bk k h) ?_
      rw [starEach_cons hb]
      refine evalArgs_plain (spliced_cons (wpAny_mono (brw_sound S hR g e hq) (fun v s₁ h₁ => spliced_nil ⟨trivial, ?_⟩) fun _ _ q => q))
      exact Res.from h₁.1 (builtin1_sound XO hR.1 (e.ks h₁.1).nb h h₁.2)
    | cons b r =>
      obtain ⟨ps, hps, h⟩ := Option.bind_eq_some_iff.mp h
      have hl := (evs_plain S (pos := pos) (env := env) hps).2
      exact call_any (P := fun _ => True) XO S hR (fun h _ => keeper_bk k h) g e hps (fun _ _ => trivial) fun s₁ vs k₁ r₁ => Res.from k₁ (builtinN_sound (fun q => nomatch (hl.symm.trans q : r.length + 1 + 1 = 1)) (e.ks k₁).nb h r₁)

theorem callH_sound (XO : XOk prog w X) (S : Snd prog w X G mg mb ev n) (hact : X.act → 40 ≤ n) (hR : Room n A) {x : Str} {px : Pos} {args : List Expr} {p : PV} {pos : Pos} (g : Gnd X G mg mb s.heap) (e : EnvAt X N W s.heap s.toks env ε) (hg : glob env.scope x = true)
    (hx : G.hdr = some x) (h : callH ev env.scope ε args = some p) : wpAny (model prog w) A (eval (.Call (.Name x px) args [] pos) env) (Res X N s p) E s := by
  have hc := g.cls x hx
  cases args with
  | nil => exact no_some h
  | cons a r => cases r with
    | cons => exact no_some h
    | nil =>
      obtain ⟨q, hq, h⟩ := Option.bind_eq_some_iff.mp h
      cases q with
      | lst l =>
        obtain ⟨kvs, hk, h⟩ := Option.bind_eq_some_iff.mp h
        obtain ⟨hcl, rfl⟩ := if_some h
        refine wpAny_bind (load_fn g e hg hc.1 ?_)
        refine call_any (P := X.base) (ps := [.lst l]) XO S hR (fun h q => XO.keep X.cls h (.inl rfl) hc.2 q) g e (by show (ev.E env.scope ε a).bind _ = _; rw [hq]; rfl) (fun s' k => (g.ks XO k).base) fun s₁ vs k₁ r₁ => Res.from k₁ ?_
        apply r₁.consC; intro v vs h1 h2
        apply h2.nilC
        exact XO.hdrNew A E s₁ N l kvs v hc.2 (hR.less (hact hc.2)) (g.ks XO k₁).lim (e.ks k₁).tp (e.ks k₁).nb (g.ks XO k₁).base h1 hk hcl
      | _ => exact no_some h

theorem callG_sound (XO : XOk prog w X) (S : Snd prog w X G mg mb ev n) (hact : X.act → 40 ≤ n) (hR : Room n A) {x : Str} {px : Pos} {args : List Expr} {p : PV} {pos : Pos} (g : Gnd X G mg mb s.heap) (e : EnvAt X N W s.heap s.toks env ε) (hg : glob env.scope x = true)
    (h : callG G ev env.scope ε x args = some p) : wpAny (model prog w) A (eval (.Call (.Name x px) args [] pos) env) (Res X N s p) E s := by
  unfold callG at h
  cases hf : G.fns.lookup x with
  | some fi =>
    rw [hf] at h
    obtain ⟨ps, hps, h⟩ := Option.bind_eq_some_iff.mp h
    obtain ⟨a, ha, hfa⟩ := g.fns x fi hf
    refine wpAny_bind (load_fn g e hg ha ?_)
    exact call_any (P := fun h => FnAt h x fi a) XO S hR (fun h q => keeper_fn h q) g e hps (fun s' k => hfa.keeps k.sub) fun s₁ vs k₁ r₁ => Res.from k₁ (S.F A E s₁ N x fi a ps vs p hR (g.ks XO k₁) (e.ks k₁).tp (e.ks k₁).nb hf (hfa.keeps k₁.sub) h r₁)
  | none =>
    rw [hf] at h
    have h : (if G.hdr == some x then callH ev env.scope ε args else (bkOf x).bind fun k => callB ev k env.scope ε args) = some p := h
    by_cases hx : (G.hdr == some x) = true
    · rw [if_pos hx] at h
      exact callH_sound XO S hact hR g e hg (by simpa using hx) h
    · rw [if_neg hx] at h
      obtain ⟨k, hk, h⟩ := Option.bind_eq_some_iff.mp h
      exact wpAny_bind (load_bi g e hg hk hf (call_bk XO S hR g e h))

theorem strConst_some {e : Expr} {z : Str} (h : strConst e = some z) : ∃ k pos, e = .Constant (.str z) k pos := by
  cases e with
  | Constant c k pos => cases c with
    | str y => obtain rfl := Option.some.inj h; exact ⟨k, pos, rfl⟩
    | _ => exact no_some h
  | _ => exact no_some h

theorem replV_sound (XO : XOk prog w X) (S : Snd prog w X G mg mb ev n) (hR : Room n A) {o : Expr} {ap : Pos} {args : List Expr} {p₀ p : PV} {pos : Pos} (g : Gnd X G mg mb s.heap) (e : EnvAt X N W s.heap s.toks env ε) (hlen : args.length < 30) (hc : (ap.endLine == pos.line && notSuper o) = true)
    (hp₀ : ev.E env.scope ε o = some p₀) (h : replV ev env.scope ε p₀ args = some p) : wpAny (model prog w) A (eval (.Call (.Attribute o "replace" ap) args [] pos) env) (Res X N s p) E s := by
  cases p₀ with
  | str x gx => cases args with
    | nil => exact no_some h
    | cons a r => cases r with
      | nil => exact no_some h
      | cons c r => cases r with
        | cons => exact no_some h
        | nil =>
          obtain ⟨z, hz, h⟩ := Option.bind_eq_some_iff.mp h
          obtain ⟨kz, pz, rfl⟩ := strConst_some hz
          obtain ⟨q, hq, h⟩ := Option.bind_eq_some_iff.mp h
          cases q with
          | str y gy =>
            obtain ⟨hcond, h⟩ := if_some2 h
            rw [Bool.and_eq_true, Bool.and_eq_true, Bool.and_eq_true] at hcond
            obtain ⟨rfl, hrl⟩ := mkS_some h
            have hst : starEach [a, .Constant (.str z) kz pz] env = [(false, eval a env), (false, eval (.Constant (.str z) kz pz) env)] := by
              rw [starEach_cons (notBad S hq)]; rfl
            refine method_any hlen (by rw [hst]; rfl) hc (wpAny_mono (S.E A E s N W env ε o _ hR g e hp₀) (fun ov s₁ h₁ pl => ?_) fun _ _ q => q)
            have k₁ := h₁.1
            apply h₁.2.strC; intro t hl hg
            refine GM.replace ?_
            rw [hst]
            refine callWith_builtin rfl (evalArgs_plain (spliced_cons (wpAny_mono (S.E A E s₁ N W env ε a _ hR (g.ks XO k₁) (e.ks k₁) hq) (fun v s₂ h₂ => spliced_cons (Calls.Constant_str (x := z) (k := kz) (pos := pz) (spliced_nil ?_))) fun _ _ q => q)))
            have k₂ := h₂.1
            apply h₂.2.strC; intro u hly hgy
            obtain ⟨hu, hu'⟩ := hgy hcond.1.1.1
            exact Res.from ((k₁.trans k₂).trans (KS.one _)) (replace_sound (of_decide_eq_true hcond.2) hrl (by simpa using hcond.1.1.2) (by simpa using hcond.1.2) (Nat.ne_of_gt hu) (Nat.ne_of_gt (Nat.lt_trans hu hu')) (Nat.ne_of_lt hu'))
          | _ => exact no_some h
  | _ => exact no_some h

theorem hdr_kind {l : List (Str × Str)} {k : MK} {ps : List PV} {p : PV} (h : methV (.hdr l) k ps = some p) : k = .get ∨ k = .keys ∨ k = .items := by
  cases k with
  | get => exact .inl rfl
  | keys => exact .inr (.inl rfl)
  | items => exact .inr (.inr rfl)
  | _ => exact no_some h

theorem callM_sound (XO : XOk prog w X) (S : Snd prog w X G mg mb ev n) (hact : X.act → 40 ≤ n) (hR : Room n A) {o : Expr} {m : Str} {ap : Pos} {args : List Expr} {p : PV} {pos : Pos} (g : Gnd X G mg mb s.heap) (e : EnvAt X N W s.heap s.toks env ε) (hlen : args.length < 30) (hc : (ap.endLine == pos.line && notSuper o) = true)
    (h : callM ev env.scope ε o m args = some p) : wpAny (model prog w) A (eval (.Call (.Attribute o m ap) args [] pos) env) (Res X N s p) E s := by
  obtain ⟨p₀, hp₀, h⟩ := Option.bind_eq_some_iff.mp h
  obtain ⟨k, hk, h⟩ := Option.bind_eq_some_iff.mp h
  by_cases hr : (k == MK.replace) = true
  · rw [if_pos hr] at h
    obtain rfl : k = .replace := by simpa using hr
    obtain rfl := mkOf_name hk
    exact replV_sound XO S hR g e hlen hc hp₀ h
  · rw [if_neg hr] at h
    obtain ⟨ps, hps, h⟩ := Option.bind_eq_some_iff.mp h
    have hpl := (evs_plain S (pos := pos) (env := env) hps).1
    refine method_any hlen hpl hc (wpAny_mono (S.E A E s N W env ε o _ hR g e hp₀) (fun ov s₁ h₁ pl => ?_) fun _ _ q => q)
    have k₁ := h₁.1
    have r₁ := h₁.2
    have hdr : (∃ l, p₀ = .hdr l) ∨ ∀ l, p₀ ≠ .hdr l := by
      cases p₀ <;> first | exact .inl ⟨_, rfl⟩ | exact .inr fun _ q => nomatch q
    rcases hdr with ⟨l, rfl⟩ | hn
    · have hkk := hdr_kind h
      have hact' : X.act := RelV.hdrC (C := fun _ => X.act) r₁ fun x dx a ox od _ _ _ hi _ _ _ => XO.ia _ _ hi
      refine wp_toks_here (XO.hdrM A E s₁ N l ov m k pl _ (g.ks XO k₁).base r₁ hk hkk fun tk ht => ?_)
      have k₂ : KS s { s₁ with toks := tk } := k₁.trans (KS.tok ht)
      refine call_any (P := X.base) XO S hR (fun h q => XO.keep (X.fn k) h (by rcases hkk with rfl | rfl | rfl <;> simp) hact' q) (g.ks XO k₂) (e.ks k₂) hps (fun s' k => (g.ks XO (k₂.trans k)).base) fun s₃ vs k₃ r₃ => Res.from (k₂.trans k₃) ?_
      exact XO.hdrCall A E s₃ N l ov k ps vs p (hR.less (hact hact')) (g.ks XO (k₂.trans k₃)).lim (e.ks (k₂.trans k₃)).tp (e.ks (k₂.trans k₃)).nb (g.ks XO (k₂.trans k₃)).base (r₁.keeps k₃.sub (Nat.le_trans ht k₃.toks)) r₃ h
    · obtain ⟨id, h1, h2⟩ := methV_sound (prog := prog) (w := w) hk h hn r₁
      refine h1 A E pl _ ?_
      exact call_any (P := fun _ => True) XO S hR (fun h _ => ⟨.machine, .inr (.inl rfl), PySem.W.Looks.of_pure rfl⟩) (g.ks XO k₁) (e.ks k₁) hps (fun _ _ => trivial) fun s₃ vs k₃ r₃ => Res.from (k₁.trans k₃) (h2 A E s₃ vs k₃ r₃)

theorem callV_sound (XO : XOk prog w X) (S : Snd prog w X G mg mb ev n) (hact : X.act → 40 ≤ n) (hR : Room n A) {f : Expr} {args : List Expr} {p : PV} {pos : Pos} (g : Gnd X G mg mb s.heap) (e : EnvAt X N W s.heap s.toks env ε) (h : callV G ev env.scope ε f args pos = some p) :
    wpAny (model prog w) A (eval (.Call f args [] pos) env) (Res X N s p) E s := by
  obtain ⟨hlen, h⟩ := if_none2 h
  cases f with
  | Name x px =>
    obtain ⟨hg, h⟩ := if_some2 h
    exact callG_sound XO S hact hR g e hg h
  | Attribute o m ap =>
    obtain ⟨hc, h⟩ := if_none2 h
    exact callM_sound XO S hact hR g e (Nat.not_le.mp hlen) (by simpa using hc) h
  | _ => exact no_some h
end
end Mine
end

section
set_option maxHeartbeats 1000000
open PySem PySem.Calls PyProof.Rows PySem.Spec PySem.Builtin PySem.Builtin.Str
namespace Mine

section
variable {prog : Program} {w : World} {X : ObjW} {G : GCtx} {mg mb : Str → Option Value} {ev : Ev} {n : Nat}
variable {A : Around} {E : Value → Shared → Prop} {s : Shared} {N W : Addr → Prop} {env : Env} {ε : LEnv}

theorem const_sound {c : Const} {p : PV} {k : Nat} {pos : Pos} (h0 : 0 < s.toks) (h : constV c = some p) : wpAny (model prog w) A (eval (.Constant c k pos) env) (Res X N s p) E s := by
  cases c with
  | none => obtain rfl := Option.some.inj h; exact Constant_none ⟨KS.refl s, .none⟩
  | bool b => obtain rfl := Option.some.inj h; exact Constant_bool ⟨KS.refl s, .bool _⟩
  | int i => obtain rfl := Option.some.inj h; exact wpAny_Constant_int ⟨KS.one s, .int _ _⟩
  | str x =>
    obtain ⟨hl, rfl⟩ := if_some h
    exact wpAny_Constant_str ⟨KS.one s, .str _ _ _ (Nat.le_trans hl lim_big) fun _ => ⟨h0, Nat.lt_succ_self _⟩⟩
  | bytes b =>
    obtain ⟨rfl, hl⟩ := mkB_some h
    exact fun Γ p hΓ => ⟨KS.one s, .bytes b _ (Nat.le_trans hl lim_big)⟩
  | _ => exact no_some h

theorem part_sound (S : Snd prog w X G mg mb ev n) (hR : Room n A) {x : Option Expr} {o : Option Int} (g : Gnd X G mg mb s.heap) (e : EnvAt X N W s.heap s.toks env ε) (h : part ev env.scope ε x = some o) :
    wpAny (model prog w) A (evalPart x env) (fun v s' => KS s s' ∧ IsPart v o) E s := by
  cases x with
  | none => obtain rfl := Option.some.inj h; exact wpAny_pure ⟨KS.refl s, .none⟩
  | some x =>
    obtain ⟨p, hp, h⟩ := Option.bind_eq_some_iff.mp h
    cases p with
    | int i =>
      obtain ⟨_, rfl⟩ := if_some h
      refine wpAny_mono (S.E A E s N W env ε _ _ hR g e hp) (fun v s₁ h₁ => ⟨h₁.1, ?_⟩) fun _ _ q => q
      apply h₁.2.intC; intro t
      exact .int _ _
    | _ => exact no_some h

theorem asBool_some {p : PV} {b : Bool} (h : asBool p = some b) : p = .bool b := by
  cases p with
  | bool c => rw [Option.some.inj h]
  | _ => exact no_some h

theorem allB_sound (XO : XOk prog w X) (S : Snd prog w X G mg mb ev n) (hR : Room n A) {pos : Pos} : ∀ {es : List Expr} {b : Bool} {s : Shared}, Gnd X G mg mb s.heap → EnvAt X N W s.heap s.toks env ε → allB ev env.scope ε es = some b →
    wpAny (model prog w) A (eval (.BoolOp .And es pos) env) (Res X N s (.bool b)) E s
  | [], b, s, g, e, h => no_some h
  | x :: r, b, s, g, e, h => by
    cases r with
    | nil =>
      obtain ⟨p, hp, h⟩ := Option.bind_eq_some_iff.mp h
      obtain rfl := asBool_some h
      exact BoolOp_one (S.E A E s N W env ε _ _ hR g e hp)
    | cons y r =>
      obtain ⟨p, hp, h⟩ := Option.bind_eq_some_iff.mp h
      obtain ⟨c, hc, h⟩ := Option.bind_eq_some_iff.mp h
      obtain rfl := asBool_some hc
      refine BoolOp_and (wpAny_mono (S.E A E s N W env ε _ _ hR g e hp) (fun v s₁ h₁ => ?_) fun _ _ q => q)
      have k₁ := h₁.1
      apply h₁.2.boolC
      refine wpAny_truthy_bool ?_
      cases c with
      | true => exact Res.from k₁ (allB_sound XO S hR (g.ks XO k₁) (e.ks k₁) h)
      | false => obtain rfl := Option.some.inj h; exact ⟨k₁, .bool _⟩

theorem behind_of {op : CmpOp} {r : Expr} (h : isBad r = false) : behindInMarks op r = false := by
  cases r <;> first | rfl | exact no_tf h

theorem one_some {α : Type} {l : List α} {a : α} (h : one l = some a) : l = [a] := by
  cases l with
  | nil => exact no_some h
  | cons b r => cases r with
    | nil => rw [Option.some.inj h]
    | cons => exact no_some h
theorem gen1_some {gs : List Comprehension} {k : Expr → Expr → List Expr → Option PV} {p : PV} (h : gen1 gs k = some p) : ∃ tgt iter ifs, gs = [⟨tgt, iter, ifs, 0⟩] ∧ k tgt iter ifs = some p := by
  obtain ⟨⟨tgt, iter, ifs, a⟩, hg, h⟩ := Option.bind_eq_some_iff.mp h
  obtain ⟨ha, h⟩ := if_some2 h
  obtain rfl : a = 0 := ha
  exact ⟨tgt, iter, ifs, one_some hg, h⟩

theorem room_units (hR : Room n A) : A.units + 64 < cLine := by have := hR.2.2; omega

theorem name_sound {x : Str} {px : Pos} {p : PV} (g : Gnd X G mg mb s.heap) (e : EnvAt X N W s.heap s.toks env ε) (h : nameV G env.scope ε x = some p) : wpAny (model prog w) A (eval (.Name x px) env) (Res X N s p) E s := by
  obtain ⟨hd, h⟩ := if_none2 h
  cases hq : ε.vars.lookup x with
  | some q =>
    rw [hq] at h
    obtain rfl := Option.some.inj h
    obtain ⟨v, hv, hr⟩ := e.vars x q hq
    exact wpAny_Name (load_var e.kind hv ⟨KS.refl s, hr⟩) (not_debug hd)
  | none =>
    rw [hq] at h
    obtain ⟨hg, h⟩ := if_some2 h
    obtain ⟨v, hv, hr⟩ := g.konst x p h
    exact load_fn g e hg hv ⟨KS.refl s, hr _ _ _⟩

theorem cmpE_parts (S : Snd prog w X G mg mb ev n) (hR : Room n A) {l : Expr} {ops : List CmpOp} {rs : List Expr} {b : Bool} (g : Gnd X G mg mb s.heap) (XO : XOk prog w X) (e : EnvAt X N W s.heap s.toks env ε) (h : cmpE ev env.scope ε l ops rs = some b) :
    ∃ op r, ops = [op] ∧ rs = [r] ∧ behindInMarks op r = false ∧ wpAny (model prog w) A (eval l env) (fun v s₁ => wpAny (model prog w) A (eval r env) (fun u s₂ => wpAny (model prog w) A (compareOp op v u) (Res X N s (.bool b)) E s₂) E s₁) E s := by
  obtain ⟨op, ho, h⟩ := Option.bind_eq_some_iff.mp h
  obtain ⟨r, hr, h⟩ := Option.bind_eq_some_iff.mp h
  obtain ⟨q, hq, h⟩ := Option.bind_eq_some_iff.mp h
  obtain ⟨u, hu, h⟩ := Option.bind_eq_some_iff.mp h
  refine ⟨op, r, one_some ho, one_some hr, behind_of (brw_bad S hu), ?_⟩
  refine wpAny_mono (S.E A E s N W env ε _ _ hR g e hq) (fun v s₁ h₁ => wpAny_mono (brw_sound S hR (g.ks XO h₁.1) (e.ks h₁.1) hu) (fun u s₂ h₂ => ?_) fun _ _ q => q) fun _ _ q => q
  exact Res.from (h₁.1.trans h₂.1) (cmpV_sound XO (room_units hR) h (h₁.2.ks h₂.1) h₂.2)

theorem sub_sound (XO : XOk prog w X) (S : Snd prog w X G mg mb ev n) (hR : Room n A) {v i : Expr} {pos : Pos} {p : PV} (g : Gnd X G mg mb s.heap) (e : EnvAt X N W s.heap s.toks env ε) (h : subE ev env.scope ε v i = some p) :
    wpAny (model prog w) A (eval (.Subscript v i pos) env) (Res X N s p) E s := by
  have plain : ((brw ev env.scope ε v).bind fun p => (ev.E env.scope ε i).bind fun q => idxV p q) = some p → wpAny (model prog w) A (eval (.Subscript v i pos) env) (Res X N s p) E s := fun h => by
    obtain ⟨q, hq, h⟩ := Option.bind_eq_some_iff.mp h
    obtain ⟨r, hr, h⟩ := Option.bind_eq_some_iff.mp h
    refine PyProof.Rows.Subscript_ (wpAny_mono (brw_sound S hR g e hq) (fun v s₁ h₁ => wpAny_mono (S.E A E s₁ N W env ε _ _ hR (g.ks XO h₁.1) (e.ks h₁.1) hr) (fun u s₂ h₂ => ?_) fun _ _ q => q) fun _ _ q => q)
    have k₂ := h₁.1.trans h₂.1
    exact Res.from k₂ (idxV_sound XO h (h₁.2.keeps h₂.1.sub h₂.1.toks) h₂.2 (e.ks k₂).tp)
  cases i with
  | Slice lo hi st ps =>
    obtain ⟨q, hq, h⟩ := Option.bind_eq_some_iff.mp h
    obtain ⟨l, hl, h⟩ := Option.bind_eq_some_iff.mp h
    obtain ⟨u, hu, h⟩ := Option.bind_eq_some_iff.mp h
    obtain ⟨t, ht, h⟩ := Option.bind_eq_some_iff.mp h
    refine PyProof.Rows.Subscript_ (wpAny_mono (S.E A E s N W env ε _ _ hR g e hq) (fun v s₁ h₁ => wpAny_Slice ?_) fun _ _ q => q)
    refine wpAny_mono (part_sound S hR (g.ks XO h₁.1) (e.ks h₁.1) hl) (fun vl s₂ h₂ => ?_) fun _ _ q => q
    have k₂ := h₁.1.trans h₂.1
    refine wpAny_mono (part_sound S hR (g.ks XO k₂) (e.ks k₂) hu) (fun vu s₃ h₃ => ?_) fun _ _ q => q
    have k₃ := k₂.trans h₃.1
    refine wpAny_mono (part_sound S hR (g.ks XO k₃) (e.ks k₃) ht) (fun vt s₄ h₄ => ?_) fun _ _ q => q
    have k₄ := k₃.trans h₄.1
    have k₅ : KS s₄ { s₄ with heap := s₄.heap.push { cls := .type "slice", data := .fields #[vl, vu, vt] } } := KS.push _ (Nat.le_refl _)
    exact Res.from (k₄.trans k₅) (sliceV_sound (e.ks (k₄.trans k₅)).nb h (h₁.2.ks (h₂.1.trans (h₃.1.trans (h₄.1.trans k₅)))) h₂.2 h₃.2 h₄.2 (Heap.IsSliceOf.new _ _ _ _))
  | _ => exact plain h

theorem lim_line {n m : Nat} (h : n ≤ lim) (e : n = m) : m ≤ sizeLine := e ▸ Nat.le_trans h (Nat.le_trans lim_big big_line)
theorem mkT_some {x : List PV} {p : PV} (h : mkT x = some p) : p = .tup x ∧ x.length ≤ lim := by
  have := if_some h
  exact ⟨this.2.symm, this.1⟩

theorem stepE_sound (XO : XOk prog w X) (S : Snd prog w X G mg mb ev n) (hact : X.act → 40 ≤ n) (hR : Room n A) {x : Expr} {p : PV} (g : Gnd X G mg mb s.heap) (e : EnvAt X N W s.heap s.toks env ε)
    (hcomp : isComp x = true → wpAny (model prog w) A (eval x env) (Res X N s p) E s) (h : stepE G ev env.scope ε x = some p) : wpAny (model prog w) A (eval x env) (Res X N s p) E s := by
  cases x with
  | Constant c k pos => exact const_sound e.tp h
  | Name y px => exact name_sound g e h
  | BinOp a op b pos =>
    obtain ⟨q, hq, h⟩ := Option.bind_eq_some_iff.mp h
    obtain ⟨r, hr, h⟩ := Option.bind_eq_some_iff.mp h
    refine wpAny_BinOp (wpAny_mono (S.E A E s N W env ε _ _ hR g e hq) (fun v s₁ h₁ => wpAny_mono (S.E A E s₁ N W env ε _ _ hR (g.ks XO h₁.1) (e.ks h₁.1) hr) (fun u s₂ h₂ => ?_) fun _ _ q => q) fun _ _ q => q)
    exact Res.from (h₁.1.trans h₂.1) (binV_sound (e.ks (h₁.1.trans h₂.1)).nb h (h₁.2.ks h₂.1) h₂.2)
  | UnaryOp op a pos => cases op with
    | USub =>
      obtain ⟨q, hq, h⟩ := Option.bind_eq_some_iff.mp h
      cases q with
      | int i =>
        obtain rfl := Option.some.inj h
        refine wpAny_UnaryOp (wpAny_mono (S.E A E s N W env ε _ _ hR g e hq) (fun v s₁ h₁ => ?_) fun _ _ q => q)
        apply h₁.2.intC; intro t
        exact P.neg_int ⟨h₁.1.trans (KS.one _), .int _ _⟩
      | _ => exact no_some h
    | _ => exact no_some h
  | IfExp t a b pos =>
    obtain ⟨c, hc, h⟩ := Option.bind_eq_some_iff.mp h
    refine PySem.wpAny_IfExp (wpAny_mono (S.T A E s N W env ε _ _ hR g e hc) (fun d s₁ h₁ => ?_) fun _ _ q => q)
    have k₁ := h₁.1
    obtain rfl := h₁.2
    cases d with
    | true => exact Res.from k₁ (S.E A E s₁ N W env ε _ _ hR (g.ks XO k₁) (e.ks k₁) h)
    | false => exact Res.from k₁ (S.E A E s₁ N W env ε _ _ hR (g.ks XO k₁) (e.ks k₁) h)
  | Compare l ops rs pos =>
    obtain ⟨b, h', rfl⟩ := Option.map_eq_some_iff.mp h
    obtain ⟨op, r, rfl, rfl, hb, h⟩ := cmpE_parts (E := E) (A := A) S hR g XO e h'
    exact wpAny_Compare1 h hb
  | BoolOp op es pos => cases op with
    | And =>
      obtain ⟨b, h', rfl⟩ := Option.map_eq_some_iff.mp h
      exact allB_sound XO S hR g e h'
    | Or => exact no_some h
  | Subscript v i pos => exact sub_sound XO S hR g e h
  | List es pos =>
    obtain ⟨ps, hps, h⟩ := Option.bind_eq_some_iff.mp h
    obtain ⟨rfl, hl⟩ := mkL_some h
    exact wpAny_List (wpAny_mono (evs_sound XO S hR g e hps) (fun vs s₁ h₁ => ⟨lim_line hl h₁.2.length, h₁.1.trans (KS.push _ (Nat.le_refl _)), RelV.newList (e.ks h₁.1).nb (Nat.le_trans hl lim_big) h₁.2 rfl (Nat.le_refl _)⟩) fun _ _ q => q)
  | Tuple es k pos =>
    obtain ⟨ps, hps, h⟩ := Option.bind_eq_some_iff.mp h
    obtain ⟨rfl, hl⟩ := mkT_some h
    exact wpAny_Tuple (wpAny_mono (evs_sound XO S hR g e hps) (fun vs s₁ h₁ => ⟨lim_line hl h₁.2.length, h₁.1.trans (KS.push _ (Nat.le_refl _)), RelV.newTuple (e.ks h₁.1).nb (Nat.le_trans hl lim_big) h₁.2 rfl (Nat.le_refl _)⟩) fun _ _ q => q)
  | ListComp => exact hcomp rfl
  | SetComp => exact hcomp rfl
  | DictComp => exact hcomp rfl
  | Call f args kws pos => cases kws with
    | nil => exact callV_sound XO S hact hR g e h
    | cons => exact no_some h
  | _ => exact no_some h

theorem stepT_sound (XO : XOk prog w X) (S : Snd prog w X G mg mb ev n) (hR : Room n A) {x : Expr} {b : Bool} (g : Gnd X G mg mb s.heap) (e : EnvAt X N W s.heap s.toks env ε)
    (h : stepT ev env.scope ε x = some b) : wpAny (model prog w) A (isTrue x env (eval x env)) (ResB s b) E s := by
  have plain : ((ev.E env.scope ε x).bind truthV) = some b → isTrue x env (eval x env) = (do let v ← eval x env; standAt x.pos; holding [v] (truthy v)) → wpAny (model prog w) A (isTrue x env (eval x env)) (ResB s b) E s := fun h hd => by
    obtain ⟨q, hq, h⟩ := Option.bind_eq_some_iff.mp h
    exact wpAny_isTrue_value (wpAny_mono (S.E A E s N W env ε _ _ hR g e hq) (fun v s₁ h₁ => ResB.from h₁.1 (truthV_sound h h₁.2)) fun _ _ q => q) hd
  cases x with
  | Compare l ops rs pos =>
    obtain ⟨op, r, rfl, rfl, hb, h⟩ := cmpE_parts (E := E) (A := A) S hR g XO e h
    refine wpAny_isTrue_Compare1 (wpAny_mono h (fun v s₁ h₁ => wpAny_mono h₁ (fun u s₂ h₂ => wpAny_mono h₂ (fun c s₃ h₃ => ?_) fun _ _ q => q) fun _ _ q => q) fun _ _ q => q) hb
    have k := h₃.1
    apply h₃.2.boolC
    exact wpAny_truthy_bool ⟨k, rfl⟩
  | UnaryOp op x pos => cases op with
    | Not =>
      obtain ⟨c, hc, rfl⟩ := Option.map_eq_some_iff.mp h
      exact PyProof.Rows.isTrue_not (wpAny_mono (S.T A E s N W env ε _ _ hR g e hc) (fun d s₁ h₁ => ⟨h₁.1, by rw [h₁.2]⟩) fun _ _ q => q)
    | _ => exact plain h rfl
  | BoolOp => exact no_some h
  | IfExp => exact no_some h
  | _ => exact plain h rfl
end
end Mine
end

section
set_option maxHeartbeats 1000000
open PySem PySem.Calls PyProof.Rows PySem.Spec PySem.Builtin PySem.Builtin.Str PySem.W
namespace Mine

/-- what one turn hands out: a value, or a pair that is unpacked at once -/
noncomputable def ItemIs (X : ObjW) (N : Addr → Prop) (h : Heap) (tk : Nat) (tgt : Expr) (p : PV) (v : Value) : Prop :=
  RelV X N h tk p v ∨ ∃ T vals ps, v = .ref T ∧ p = .tup ps ∧ h.IsTuple T vals ∧ RelVs X N h tk ps vals.toList ∧ isPair tgt = true

inductive Turning (prog : Program) (w : World) (X : ObjW) (N : Addr → Prop) (tgt : Expr) (it : Value) (ps : List PV) (s s₂ : Shared) : Prop
  | mk (I : Addr) (fp wr : List Addr) (P Md : Nat → Value → Heap → Prop) (St : Nat → Heap → Prop) (e : it = .ref I) (turns : ∀ A : Around, A.handled = none → KTurns prog w A tgt I fp wr ps.length P Md St) (st : St 0 s₂.heap) (hfp : ∀ b ∈ fp, ¬ N b ∧ (s₂.heap.get? b).isSome = true) (hwr : ∀ b ∈ wr, s.heap.get? b = none)
    (al : ∀ i h, St i h → ∀ b ∈ wr, (h.get? b).isSome = true) (self : ∀ (A : Around) (E : Value → Shared → Prop) (i : Nat) (s : Shared) (Q : Value → Shared → Prop), A.handled = none → St i s.heap → Q (.ref I) s → wpAny (model prog w) A (pyIter (.ref I)) Q E s)
    (items : ∀ i v h tk p (N' : Addr → Prop), P i v h → ps[i]? = some p → s₂.toks ≤ tk → (∀ b, (s₂.heap.get? b).isSome = true → N' b → N b ∨ b ∈ wr) → (∀ b o, ¬ N' b → s₂.heap.get? b = some o → h.get? b = some o) → ItemIs X N' h tk tgt p v) : Turning prog w X N tgt it ps s s₂

section
variable {prog : Program} {w : World} {X : ObjW} {G : GCtx} {mg mb : Str → Option Value} {ev : Ev} {n : Nat}
variable {A : Around} {E : Value → Shared → Prop} {s s₁ s₂ : Shared} {N W : Addr → Prop} {env : Env} {ε : LEnv} {tgt : Expr}

theorem letGo_any {I : Addr} {o : Obj} {c : String} {vs : Array Value} {v : Value} {Q : Unit → Shared → Prop} (ho : s.heap.get? I = some o) (hc : o.cls = .type c) (hd : o.data = .fields vs)
    (hn : ["enumerate", "zip", "dict_itemiterator", "dict_reverseitemiterator", "odict_iterator", "itertools.zip_longest", "itertools.pairwise"].contains c = false) (h : Q () s) :
    wpAny (model prog w) A (letOwnedTupleGo tgt (.ref I) v) Q E s := by
  unfold letOwnedTupleGo
  cases tgt <;> first
    | exact wpAny_pure h
    | (cases v <;> first
        | exact wpAny_pure h
        | (refine wpAny_bind (wpAny_load ho ?_)
           rw [hc, hd]
           dsimp only
           rw [hn]
           exact wpAny_pure h))

theorem none_of_ks {b : Addr} (k : KS s s₁) (h : s₁.heap.get? b = none) : s.heap.get? b = none := by
  cases q : s.heap.get? b with
  | none => rfl
  | some o => rw [k.sub b o q] at h; cases h

theorem rel_turn {N' : Addr → Prop} {wr : List Addr} {h : Heap} {tk : Nat} {p : PV} {v : Value} (k : KS s₁ s₂) (hf : ∀ b ∈ wr, s₁.heap.get? b = none) (ht : s₂.toks ≤ tk) (hn : ∀ b, (s₂.heap.get? b).isSome = true → N' b → N b ∨ b ∈ wr) (hk : ∀ b o, ¬ N' b → s₂.heap.get? b = some o → h.get? b = some o)
    (r : RelV X N s₁.heap s₁.toks p v) : RelV X N' h tk p v :=
  r.tr (fun b o n q => by
    have q₂ := k.sub b o q
    have hb : ¬ N' b := fun z => by
      rcases hn b (by rw [q₂]; rfl) z with z | z
      · exact n z
      · rw [hf b z] at q; cases q
    exact ⟨hb, hk b o hb q₂⟩) (Nat.le_trans k.toks ht)

theorem some_of_ks {b : Addr} (k : KS s₁ s₂) (h : (s₁.heap.get? b).isSome = true) : (s₂.heap.get? b).isSome = true := by
  obtain ⟨o, ho⟩ := Option.isSome_iff_exists.mp h
  rw [k.sub b o ho]; rfl

theorem char_is {h : Heap} {tk : Nat} {N : Addr → Prop} {x : Str} {i : Nat} {p : PV} {v : Value} (hv : SignAt x i v) (hp : (strsV (charsOf x))[i]? = some p) : RelV X N h tk p v := by
  obtain ⟨c, u, hc, rfl⟩ := hv
  have : (strsV (charsOf x))[i]? = some (.str ⟨#[c]⟩ false) := by
    unfold strsV charsOf
    simp [hc]
  rw [this] at hp
  cases hp
  exact .str _ _ _ (by show 1 ≤ big; decide) fun e => nomatch e
theorem chars_length (x : Str) : (strsV (charsOf x)).length = x.cps.size := by simp [strsV, charsOf]

theorem turn_list {l : List PV} {a : Addr} {vs : List Value} {n : Nat} {Q : Value → Shared → Prop} (nb : ∀ b, N b → (s₁.heap.get? b).isSome = true) (k : KS s s₁) (hN : ¬ N a) (ho : s₁.heap.get? a = some (seqO "list" vs n)) (hr : RelVs X N s₁.heap s₁.toks l vs)
    (h : ∀ s₂ it, KS s₁ s₂ → Turning prog w X N tgt it l s s₂ → Q it s₂) : wpAny (model prog w) A (pyIter (.ref a)) Q E s₁ := by
  refine wpAny_pyIter_list (islist ho) ?_
  have hlt := Heap.lt_size ho
  have ks : KS s₁ { s₁ with heap := s₁.heap.push { cls := .type "list_iterator", data := .fields #[.ref a, .int 0 0] } } := KS.push _ (Nat.le_refl _)
  have hI : s₁.heap.get? s₁.heap.objs.size = none := none_of_size (Nat.le_refl _)
  have hlen := hr.length
  refine h _ _ ks ⟨s₁.heap.objs.size, [s₁.heap.objs.size, a], [s₁.heap.objs.size], (fun i v _ => vs.toArray[i]? = some v), (fun i v h => (vs.toArray[i]? = some v) ∧ (fun (i : Nat) (h : Heap) => h.IsListIter s₁.heap.objs.size a i ∧ h.IsList a vs.toArray) (i + 1) h), (fun i h => h.IsListIter s₁.heap.objs.size a i ∧ h.IsList a vs.toArray), rfl, fun A' hA => ?_, ?_, fun b hb => ?_, fun b hb => ?_, fun i h st b hb => ?_, fun A' E' i s' Q' hA' st q => (Walks.list (prog := prog) (w := w) (A := A') hA' s₁.heap.objs.size a (Nat.ne_of_lt hlt) vs.toArray).self i s' Q' E' st q, fun i v h tk p N' hv hp ht hn hk => ?_⟩
  · have K := KTurns.ofWalks (target := tgt) (Walks.list (prog := prog) (w := w) (A := A') hA s₁.heap.objs.size a (Nat.ne_of_lt hlt) vs.toArray) (fun i v s Q E st q => letGo_listiter st.1 q)
    have e : vs.toArray.size = l.length := by simp [hlen]
    rw [e] at K
    exact K
  · exact ⟨⟨_, Heap.get?_push_size _ rfl, rfl, rfl⟩, (islist ho).at fun o e => Heap.get?_push_of_some _ e⟩
  · rcases List.mem_cons.mp hb with rfl | hb
    · exact ⟨not_in_of_none nb hI, by show ((s₁.heap.push _).get? _).isSome = true; rw [Heap.get?_push_size _ rfl]; rfl⟩
    · rw [List.mem_singleton.mp hb]; exact ⟨hN, some_of_ks ks (by rw [ho]; rfl)⟩
  · rw [List.mem_singleton.mp hb]; exact none_of_ks k hI
  · rw [List.mem_singleton.mp hb]
    obtain ⟨o, ho, _⟩ := st.1
    rw [ho]; rfl
  · obtain ⟨u, hu, hru⟩ := hr.get hp
    have hv : vs[i]? = some v := by simpa using hv
    rw [hu] at hv
    cases hv
    exact .inl (rel_turn ks (fun b hb => by rw [List.mem_singleton.mp hb]; exact hI) ht hn hk hru)

theorem turn_tuple {l : List PV} {a : Addr} {vs : List Value} {n : Nat} {Q : Value → Shared → Prop} (nb : ∀ b, N b → (s₁.heap.get? b).isSome = true) (k : KS s s₁) (hN : ¬ N a) (ho : s₁.heap.get? a = some (seqO "tuple" vs n)) (hr : RelVs X N s₁.heap s₁.toks l vs)
    (h : ∀ s₂ it, KS s₁ s₂ → Turning prog w X N tgt it l s s₂ → Q it s₂) : wpAny (model prog w) A (pyIter (.ref a)) Q E s₁ := by
  have hT : s₁.heap.IsTuple a vs.toArray := ⟨_, ho, rfl, n, rfl⟩
  refine wpAny_pyIter_tuple hT ?_
  have hlt := Heap.lt_size ho
  have ks : KS s₁ { s₁ with heap := s₁.heap.push { cls := .type "tuple_iterator", data := .fields #[.ref a, .int 0 0] } } := KS.push _ (Nat.le_refl _)
  have hI : s₁.heap.get? s₁.heap.objs.size = none := none_of_size (Nat.le_refl _)
  have hlen := hr.length
  refine h _ _ ks ⟨s₁.heap.objs.size, [s₁.heap.objs.size, a], [s₁.heap.objs.size], (fun i v _ => vs.toArray[i]? = some v), (fun i v h => (vs.toArray[i]? = some v) ∧ (fun (i : Nat) (h : Heap) => h.IsTupleIter s₁.heap.objs.size a i ∧ h.IsTuple a vs.toArray) (i + 1) h), (fun i h => h.IsTupleIter s₁.heap.objs.size a i ∧ h.IsTuple a vs.toArray), rfl, fun A' hA => ?_, ?_, fun b hb => ?_, fun b hb => ?_, fun i h st b hb => ?_, fun A' E' i s' Q' hA' st q => (Walks.tuple (prog := prog) (w := w) (A := A') hA' s₁.heap.objs.size a (Nat.ne_of_lt hlt) vs.toArray).self i s' Q' E' st q, fun i v h tk p N' hv hp ht hn hk => ?_⟩
  · have K := KTurns.ofWalks (target := tgt) (Walks.tuple (prog := prog) (w := w) (A := A') hA s₁.heap.objs.size a (Nat.ne_of_lt hlt) vs.toArray) (fun i v s Q E st q => letGo_tupleiter st.1 q)
    have e : vs.toArray.size = l.length := by simp [hlen]
    rw [e] at K
    exact K
  · exact ⟨⟨_, Heap.get?_push_size _ rfl, rfl, rfl⟩, hT.at fun o e => Heap.get?_push_of_some _ e⟩
  · rcases List.mem_cons.mp hb with rfl | hb
    · exact ⟨not_in_of_none nb hI, by show ((s₁.heap.push _).get? _).isSome = true; rw [Heap.get?_push_size _ rfl]; rfl⟩
    · rw [List.mem_singleton.mp hb]; exact ⟨hN, some_of_ks ks (by rw [ho]; rfl)⟩
  · rw [List.mem_singleton.mp hb]; exact none_of_ks k hI
  · rw [List.mem_singleton.mp hb]
    obtain ⟨o, ho, _⟩ := st.1
    rw [ho]; rfl
  · obtain ⟨u, hu, hru⟩ := hr.get hp
    have hv : vs[i]? = some v := by simpa using hv
    rw [hu] at hv
    cases hv
    exact .inl (rel_turn ks (fun b hb => by rw [List.mem_singleton.mp hb]; exact hI) ht hn hk hru)

theorem ascii_all {x : Str} (h : asciiS x = true) : x.cps.all (· < 128) = true := by
  unfold asciiS at h
  rw [← Array.all_toList]
  exact h

theorem turn_str {x : Str} {t : Tok} {Q : Value → Shared → Prop} (hA : asciiS x = true) (nb : ∀ b, N b → (s₁.heap.get? b).isSome = true) (k : KS s s₁)
    (h : ∀ s₂ it, KS s₁ s₂ → Turning prog w X N tgt it (strsV (charsOf x)) s s₂ → Q it s₂) : wpAny (model prog w) A (pyIter (.str x t)) Q E s₁ := by
  refine wpAny_pyIter_ascii (ascii_all hA) ?_
  have ks : KS s₁ { s₁ with heap := s₁.heap.push { cls := .type "str_ascii_iterator", data := .fields #[.str x t, .int 0 0] } } := KS.push _ (Nat.le_refl _)
  have hI : s₁.heap.get? s₁.heap.objs.size = none := none_of_size (Nat.le_refl _)
  refine h _ _ ks ⟨s₁.heap.objs.size, [s₁.heap.objs.size], [s₁.heap.objs.size], (fun i v _ => SignAt x i v), (fun i v h => (SignAt x i v) ∧ (fun (i : Nat) (h : Heap) => h.IsStrIter s₁.heap.objs.size "str_ascii_iterator" x t i) (i + 1) h), (fun i h => h.IsStrIter s₁.heap.objs.size "str_ascii_iterator" x t i), rfl, fun A' hA => ?_, ?_, fun b hb => ?_, fun b hb => ?_, fun i h st b hb => ?_, fun A' E' i s' Q' hA' st q => (Walks.strAscii (prog := prog) (w := w) (A := A') hA' s₁.heap.objs.size x t).self i s' Q' E' st q, fun i v h tk p N' hv hp ht hn hk => ?_⟩
  · have K := KTurns.ofWalks (target := tgt) (Walks.strAscii (prog := prog) (w := w) (A := A') hA s₁.heap.objs.size x t) (fun i v s Q E st q => by
      obtain ⟨o, ho, hc, hd⟩ := st
      exact letGo_any ho hc hd (by decide) q)
    rw [← chars_length] at K
    exact K
  · exact ⟨_, Heap.get?_push_size _ rfl, rfl, rfl⟩
  · rw [List.mem_singleton.mp hb]; exact ⟨not_in_of_none nb hI, by show ((s₁.heap.push _).get? _).isSome = true; rw [Heap.get?_push_size _ rfl]; rfl⟩
  · rw [List.mem_singleton.mp hb]; exact none_of_ks k hI
  · rw [List.mem_singleton.mp hb]
    obtain ⟨o, ho, _⟩ := st
    rw [ho]; rfl
  · exact .inl (char_is hv hp)

theorem turn_bytes {x : List UInt8} {t : Tok} {Q : Value → Shared → Prop} (nb : ∀ b, N b → (s₁.heap.get? b).isSome = true) (k : KS s s₁)
    (h : ∀ s₂ it, KS s₁ s₂ → Turning prog w X N tgt it (x.map fun c => .int c.toNat) s s₂ → Q it s₂) : wpAny (model prog w) A (pyIter (.bytes x.toArray t)) Q E s₁ := by
  refine PySem.W.KBw.pyIter_bytes ?_
  have ks : KS s₁ { s₁ with heap := s₁.heap.push { cls := .type "bytes_iterator", data := .fields #[.bytes x.toArray t, .int 0 0] } } := KS.push _ (Nat.le_refl _)
  have hI : s₁.heap.get? s₁.heap.objs.size = none := none_of_size (Nat.le_refl _)
  refine h _ _ ks ⟨s₁.heap.objs.size, [s₁.heap.objs.size], [s₁.heap.objs.size], (fun i v _ => ∃ c u, x.toArray[i]? = some c ∧ v = .int (c.toNat : Int) u), (fun i v h => (∃ c u, x.toArray[i]? = some c ∧ v = .int (c.toNat : Int) u) ∧ (fun (i : Nat) (h : Heap) => PySem.W.KBw.IsBytesIter h s₁.heap.objs.size x.toArray t i) (i + 1) h), (fun i h => PySem.W.KBw.IsBytesIter h s₁.heap.objs.size x.toArray t i), rfl, fun A' hA => ?_, ?_, fun b hb => ?_, fun b hb => ?_, fun i h st b hb => ?_, fun A' E' i s' Q' hA' st q => (PySem.W.KBw.walks (prog := prog) (w := w) (A := A') hA' s₁.heap.objs.size x.toArray t).self i s' Q' E' st q, fun i v h tk p N' hv hp ht hn hk => ?_⟩
  · have K := KTurns.ofWalks (target := tgt) (PySem.W.KBw.walks (prog := prog) (w := w) (A := A') hA s₁.heap.objs.size x.toArray t) (fun i v s Q E st q => by
      obtain ⟨o, ho, hc, hd⟩ := st
      exact letGo_any ho hc hd (by decide) q)
    have e : x.toArray.size = (x.map fun c => PV.int c.toNat).length := by simp
    rw [e] at K
    exact K
  · exact ⟨_, Heap.get?_push_size _ rfl, rfl, rfl⟩
  · rw [List.mem_singleton.mp hb]; exact ⟨not_in_of_none nb hI, by show ((s₁.heap.push _).get? _).isSome = true; rw [Heap.get?_push_size _ rfl]; rfl⟩
  · rw [List.mem_singleton.mp hb]; exact none_of_ks k hI
  · rw [List.mem_singleton.mp hb]
    obtain ⟨o, ho, _⟩ := st
    rw [ho]; rfl
  · obtain ⟨c, u, hc, rfl⟩ := hv
    have hc : x[i]? = some c := by simpa using hc
    have : (x.map fun c => PV.int c.toNat)[i]? = some (.int c.toNat) := by simp [hc]
    rw [this] at hp
    cases hp
    exact .inl (.int _ _)

theorem turn_items {p : PV} {ps : List PV} {v : Value} {Q : Value → Shared → Prop} (nb : ∀ b, N b → (s₁.heap.get? b).isSome = true) (k : KS s s₁) (hi : itemsV p = some ps) (hr : RelV X N s₁.heap s₁.toks p v)
    (h : ∀ s₂ it, KS s₁ s₂ → Turning prog w X N tgt it ps s s₂ → Q it s₂) : wpAny (model prog w) A (pyIter v) Q E s₁ := by
  cases p with
  | lst l =>
    obtain rfl := Option.some.inj hi
    apply hr.lstC; intro a vs n hN ho hl hr
    exact turn_list nb k hN ho hr h
  | tup l =>
    obtain rfl := Option.some.inj hi
    apply hr.tupC; intro a vs n hN ho hl hr
    exact turn_tuple nb k hN ho hr h
  | str x g =>
    obtain ⟨hA, rfl⟩ := if_some hi
    apply hr.strC; intro t hl hg
    exact turn_str hA nb k h
  | bytes x =>
    obtain rfl := Option.some.inj hi
    apply hr.bytesC; intro t hl
    exact turn_bytes nb k h
  | _ => exact no_some hi
end
end Mine
end

section
set_option maxHeartbeats 1000000
open PySem PySem.Calls PyProof.Rows PySem.Spec PySem.Builtin PySem.Builtin.Str PySem.W
namespace Mine

theorem enumL_get : ∀ (l : List PV) (k i : Nat) {p : PV}, (enumL k l)[i]? = some p → ∃ q, l[i]? = some q ∧ p = .tup [.int ((k + i : Nat) : Int), q]
  | [], k, i, p, h => by simp [enumL] at h
  | a :: r, k, 0, p, h => by
    simp only [enumL, List.getElem?_cons_zero, Option.some.injEq] at h
    exact ⟨a, rfl, h ▸ rfl⟩
  | a :: r, k, i + 1, p, h => by
    simp only [enumL, List.getElem?_cons_succ] at h
    obtain ⟨q, h1, h2⟩ := enumL_get r (k + 1) i h
    refine ⟨q, by simpa using h1, ?_⟩
    rw [h2]
    congr 3
    have : k + 1 + i = k + (i + 1) := by omega
    rw [this]
theorem enumL_length : ∀ (l : List PV) (k : Nat), (enumL k l).length = l.length
  | [], _ => rfl
  | _ :: r, k => by simp [enumL, enumL_length r]
theorem zipL_get : ∀ (l m : List PV) (i : Nat) {p : PV}, (zipL l m)[i]? = some p → ∃ q r, l[i]? = some q ∧ m[i]? = some r ∧ p = .tup [q, r]
  | [], m, i, p, h => by simp [zipL] at h
  | a :: r, [], i, p, h => by simp [zipL] at h
  | a :: r, b :: t, 0, p, h => by
    simp only [zipL, List.getElem?_cons_zero, Option.some.injEq] at h
    exact ⟨a, b, rfl, rfl, h ▸ rfl⟩
  | a :: r, b :: t, i + 1, p, h => by
    simp only [zipL, List.getElem?_cons_succ] at h
    obtain ⟨q, u, h1, h2, h3⟩ := zipL_get r t i h
    exact ⟨q, u, by simpa using h1, by simpa using h2, h3⟩
theorem zipL_length : ∀ (l m : List PV), l.length = m.length → (zipL l m).length = l.length
  | [], _, _ => by simp [zipL]
  | _ :: r, [], h => by simp at h
  | _ :: r, _ :: t, h => by simp [zipL, zipL_length r t (by simpa using h)]

section
variable {prog : Program} {w : World} {X : ObjW} {G : GCtx} {mg mb : Str → Option Value} {ev : Ev} {n : Nat}
variable {A : Around} {E : Value → Shared → Prop} {s s₁ s₂ : Shared} {N W : Addr → Prop} {env : Env} {ε : LEnv} {tgt : Expr}

theorem pair_of (h : isPair tgt = true) : ∃ elts k pos, tgt = .Tuple elts k pos := by
  cases tgt with
  | Tuple elts k pos => exact ⟨elts, k, pos, rfl⟩
  | _ => exact no_ft h
theorem two_some {α : Type} {l : List α} {a : α × α} (h : two l = some a) : l = [a.1, a.2] := by
  cases l with
  | nil => exact no_some h
  | cons b r =>
    obtain ⟨c, hc, h'⟩ := Option.map_eq_some_iff.mp h
    obtain rfl := one_some hc
    obtain rfl := h'
    rfl
theorem nm_some {e : Expr} {x : Str} (h : nm e = some x) : ∃ px, e = .Name x px := by
  cases e with
  | Name y px => obtain rfl := Option.some.inj h; exact ⟨px, rfl⟩
  | _ => exact no_some h
theorem names2_some {es : List Expr} {xy : Str × Str} (h : names2 es = some xy) : ∃ px py, es = [.Name xy.1 px, .Name xy.2 py] := by
  obtain ⟨ab, h1, h⟩ := Option.bind_eq_some_iff.mp h
  obtain ⟨x, h2, h⟩ := Option.bind_eq_some_iff.mp h
  obtain ⟨y, h3, h'⟩ := Option.map_eq_some_iff.mp h
  obtain rfl := two_some h1
  obtain ⟨px, hx⟩ := nm_some h2
  obtain ⟨py, hy⟩ := nm_some h3
  exact ⟨px, py, by rw [hx, hy, ← h']⟩

theorem turn_range {r : Addr} {a b : Int} {t u v : Tok} {Q : Value → Shared → Prop} (ha : smallI a = true) (hb : smallI b = true) (nb : ∀ b, N b → (s₁.heap.get? b).isSome = true) (k : KS s s₁) (hr : IsRange s₁.heap r a b 1 t u v)
    (h : ∀ s₂ it, KS s₁ s₂ → Turning prog w X N tgt it (rangeL a b) s s₂ → Q it s₂) : wpAny (model prog w) A (pyIter (.ref r)) Q E s₁ := by
  have ha := smallI_lt ha
  have hb := smallI_lt hb
  refine wpAny_pyIter_range hr (small_one (by omega) (by omega) (by omega) (by omega)) ?_
  have ks : KS s₁ { s₁ with heap := s₁.heap.push { cls := .type "range_iterator", data := .fields #[rawInt a, rawInt (Builtin.Range.rangeSize a b 1), rawInt 1] } } := KS.push _ (Nat.le_refl _)
  have hI : s₁.heap.get? s₁.heap.objs.size = none := none_of_size (Nat.le_refl _)
  have hn : Builtin.Range.rangeSize a b 1 = (((b - a).toNat : Nat) : Int) := by
    rw [rangeSize_one]
    split <;> omega
  refine h _ _ ks ⟨s₁.heap.objs.size, [s₁.heap.objs.size], [s₁.heap.objs.size], (fun i v _ => ∃ t, v = .int (a + i * 1) t), (fun i v h => (∃ t, v = .int (a + i * 1) t) ∧ (fun (i : Nat) (h : Heap) => IsRangeIter h s₁.heap.objs.size (a + (i : Nat) * 1) (((b - a).toNat : Int) - (i : Nat)) 1) (i + 1) h),
    (fun i h => IsRangeIter h s₁.heap.objs.size (a + (i : Nat) * 1) (((b - a).toNat : Int) - (i : Nat)) 1), rfl, fun A' hA => ?_, ?_, fun b hb => ?_, fun b hb => ?_, fun i h st b hb => ?_, fun A' E' i s' Q' hA' st q => (Walks.range (prog := prog) (w := w) (A := A') hA' s₁.heap.objs.size a 1 (b - a).toNat).self i s' Q' E' st q, fun i v h tk p N' hv hp ht hn hk => ?_⟩
  · have K := KTurns.ofWalks (target := tgt) (Walks.range (prog := prog) (w := w) (A := A') hA s₁.heap.objs.size a 1 (b - a).toNat) (fun i v s Q E st q => letGo_any st rfl rfl (by decide) q)
    have e : (b - a).toNat = (rangeL a b).length := by simp [rangeL]
    rw [e] at K ⊢
    exact K
  · show IsRangeIter _ _ (a + ((0 : Nat) : Int) * 1) (((b - a).toNat : Int) - ((0 : Nat) : Int)) 1
    rw [← hn]
    have e1 : a + ((0 : Nat) : Int) * 1 = a := by simp
    have e2 : Builtin.Range.rangeSize a b 1 - ((0 : Nat) : Int) = Builtin.Range.rangeSize a b 1 := by simp
    rw [e1, e2]
    exact Heap.get?_push_size _ rfl
  · rw [List.mem_singleton.mp hb]; exact ⟨not_in_of_none nb hI, by show ((s₁.heap.push _).get? _).isSome = true; rw [Heap.get?_push_size _ rfl]; rfl⟩
  · rw [List.mem_singleton.mp hb]; exact none_of_ks k hI
  · rw [List.mem_singleton.mp hb, st]; rfl
  · obtain ⟨t, rfl⟩ := hv
    have : p = .int (a + (i : Nat)) := by
      unfold rangeL at hp
      rw [List.getElem?_map] at hp
      cases q : (List.range (b - a).toNat)[i]? with
      | none => rw [q] at hp; cases hp
      | some j =>
        rw [q] at hp
        have : j = i := by
          rw [List.getElem?_eq_some_iff] at q
          obtain ⟨_, q⟩ := q
          simpa using q.symm
        subst this
        cases hp; rfl
    subst this
    rw [Int.mul_one]
    exact .inl (.int _ _)

theorem turn_enumL {l : List PV} {a : Addr} {vs : List Value} {n : Nat} {Q : Value → Shared → Prop} (hT : isPair tgt = true) (nb : ∀ b, N b → (s₁.heap.get? b).isSome = true) (k : KS s s₁) (hN : ¬ N a) (ho : s₁.heap.get? a = some (seqO "list" vs n)) (hr : RelVs X N s₁.heap s₁.toks l vs)
    (h : ∀ s₂ it, KS s₁ s₂ → Turning prog w X N tgt it (enumL 0 l) s s₂ → Q it s₂) : wpAny (model prog w) A (call (.type "enumerate") [.ref a]) (fun x s₂ => wpAny (model prog w) A (pyIter x) Q E s₂) E s₁ := by
  refine call_enumerate_list (islist ho) fun h' hE hIt hsz hk => wpAny_pyIter_enum hE ?_
  have hlt := Heap.lt_size ho
  have ks : KS s₁ { s₁ with heap := h' } := ⟨h', s₁.toks, rfl, hk, Nat.le_refl _⟩
  have hI : ∀ b ∈ [s₁.heap.objs.size + 1, s₁.heap.objs.size], s₁.heap.get? b = none := fun b hb => by
    rcases List.mem_cons.mp hb with rfl | hb
    · exact none_of_size (Nat.le_succ _)
    · rw [List.mem_singleton.mp hb]; exact none_of_size (Nat.le_refl _)
  have hlen := hr.length
  obtain ⟨elts, kk, pos, rfl⟩ := pair_of hT
  have K := fun (A' : Around) (hA : A'.handled = none) => KTurns.ofWalksU (elts := elts) (k := kk) (pos := pos) (WalksT.enumerate (prog := prog) (w := w) (A := A') hA (s₁.heap.objs.size + 1) s₁.heap.objs.size a (Nat.succ_ne_self _) (ktu_ne 1 hlt) (Nat.ne_of_lt hlt) vs.toArray).toU
  have e : vs.toArray.size = (enumL 0 l).length := by simp [enumL_length, hlen]
  rw [e] at K
  refine h _ _ ks ⟨_, _, _, _, _, _, rfl, K, ?_, fun b hb => ?_, fun b hb => none_of_ks k (hI b hb), fun i h st b hb => ?_, fun A' E' i s' Q' hA' st q => (WalksT.enumerate (prog := prog) (w := w) (A := A') hA' (s₁.heap.objs.size + 1) s₁.heap.objs.size a (Nat.succ_ne_self _) (ktu_ne 1 hlt) (Nat.ne_of_lt hlt) vs.toArray).self i s' Q' E' st q, fun i v h tk p N' hv hp ht hn hk => ?_⟩
  · exact ⟨⟨_, hE⟩, hIt, (islist ho).at fun o e => hk a o e⟩
  · by_cases hb' : b ∈ [s₁.heap.objs.size + 1, s₁.heap.objs.size]
    · refine ⟨not_in_of_none nb (hI b hb'), ?_⟩
      simp only [List.mem_cons, List.not_mem_nil, or_false] at hb'
      obtain ⟨o2, ho2, _⟩ := hIt
      rcases hb' with rfl | rfl
      · show (h'.get? _).isSome = true
        rw [hE]; rfl
      · show (h'.get? _).isSome = true
        rw [ho2]; rfl
    · have : b = a := by
        simp only [List.mem_cons, List.not_mem_nil, or_false] at hb hb'
        rcases hb with rfl | rfl | rfl
        · exact absurd (.inl rfl) hb'
        · exact absurd (.inr rfl) hb'
        · rfl
      rw [this]; exact ⟨hN, some_of_ks ks (by rw [ho]; rfl)⟩
  · obtain ⟨⟨old, he⟩, ⟨o2, ho2, _⟩, _⟩ := st
    rcases List.mem_cons.mp hb with rfl | hb
    · rw [he]; rfl
    · rw [List.mem_singleton.mp hb, ho2]; rfl
  · obtain ⟨T, vals, rfl, ⟨t, x, hx, rfl⟩, hTu⟩ := hv
    obtain ⟨q, hq, rfl⟩ := enumL_get l 0 i hp
    obtain ⟨u, hu, hru⟩ := hr.get hq
    have hx : vs[i]? = some x := by simpa using hx
    rw [hu] at hx
    cases hx
    refine .inr ⟨T, _, _, rfl, rfl, hTu, ?_, hT⟩
    refine .cons _ _ _ _ ?_ (.cons _ _ _ _ (rel_turn ks hI ht hn hk hru) .nil)
    rw [Nat.zero_add]
    exact .int _ _

theorem turn_enumS {x : Str} {t : Tok} {Q : Value → Shared → Prop} (hT : isPair tgt = true) (hA : asciiS x = true) (nb : ∀ b, N b → (s₁.heap.get? b).isSome = true) (k : KS s s₁)
    (h : ∀ s₂ it, KS s₁ s₂ → Turning prog w X N tgt it (enumL 0 (strsV (charsOf x))) s s₂ → Q it s₂) : wpAny (model prog w) A (call (.type "enumerate") [.str x t]) (fun x s₂ => wpAny (model prog w) A (pyIter x) Q E s₂) E s₁ := by
  refine call_enumerate_str fun h' hE hIt hsz hk => wpAny_pyIter_enum hE ?_
  have ety : strIterType x = "str_ascii_iterator" := by unfold strIterType; rw [ascii_all hA]; rfl
  rw [ety] at hIt
  have ks : KS s₁ { s₁ with heap := h' } := ⟨h', s₁.toks, rfl, hk, Nat.le_refl _⟩
  have hI : ∀ b ∈ [s₁.heap.objs.size + 1, s₁.heap.objs.size], s₁.heap.get? b = none := fun b hb => by
    rcases List.mem_cons.mp hb with rfl | hb
    · exact none_of_size (Nat.le_succ _)
    · rw [List.mem_singleton.mp hb]; exact none_of_size (Nat.le_refl _)
  obtain ⟨elts, kk, pos, rfl⟩ := pair_of hT
  have K := fun (A' : Around) (hA : A'.handled = none) => KTurns.ofWalksU (elts := elts) (k := kk) (pos := pos) (WalksT.enumerateD (prog := prog) (w := w) (A := A') (Draws.strAscii (A := A'.in1) hA s₁.heap.objs.size x t) (s₁.heap.objs.size + 1) (Nat.succ_ne_self _) (by simp) (by simp)).toU
  have e : x.cps.size = (enumL 0 (strsV (charsOf x))).length := by rw [enumL_length, chars_length]
  rw [e] at K
  refine h _ _ ks ⟨_, _, _, _, _, _, rfl, K, ?_, fun b hb => ?_, fun b hb => none_of_ks k (hI b hb), fun i h st b hb => ?_, fun A' E' i s' Q' hA' st q => (WalksT.enumerateD (prog := prog) (w := w) (A := A') (Draws.strAscii (A := A'.in1) hA' s₁.heap.objs.size x t) (s₁.heap.objs.size + 1) (Nat.succ_ne_self _) (by simp) (by simp)).self i s' Q' E' st q, fun i v h tk p N' hv hp ht hn hk => ?_⟩
  · exact ⟨⟨_, hE⟩, hIt⟩
  · refine ⟨not_in_of_none nb (hI b hb), ?_⟩
    simp only [List.mem_cons, List.not_mem_nil, or_false] at hb
    obtain ⟨o2, ho2, _⟩ := hIt
    rcases hb with rfl | rfl
    · show (h'.get? _).isSome = true
      rw [hE]; rfl
    · show (h'.get? _).isSome = true
      rw [ho2]; rfl
  · obtain ⟨⟨old, he⟩, ⟨o2, ho2, _⟩⟩ := st
    rcases List.mem_cons.mp hb with rfl | hb
    · rw [he]; rfl
    · rw [List.mem_singleton.mp hb, ho2]; rfl
  · obtain ⟨T, vals, rfl, ⟨t, x, hx, rfl⟩, hTu⟩ := hv
    obtain ⟨q, hq, rfl⟩ := enumL_get _ 0 i hp
    refine .inr ⟨T, _, _, rfl, rfl, hTu, ?_, hT⟩
    refine .cons _ _ _ _ ?_ (.cons _ _ _ _ (char_is hx hq) .nil)
    rw [Nat.zero_add]
    exact .int _ _

theorem turn_zip {l m : List PV} {a b : Addr} {vs us : List Value} {n n' : Nat} {Q : Value → Shared → Prop} (hT : isPair tgt = true) (hlm : l.length = m.length) (nb : ∀ b, N b → (s₁.heap.get? b).isSome = true) (k : KS s s₁) (hN : ¬ N a) (ho : s₁.heap.get? a = some (seqO "list" vs n)) (hr : RelVs X N s₁.heap s₁.toks l vs)
    (hN' : ¬ N b) (ho' : s₁.heap.get? b = some (seqO "list" us n')) (hr' : RelVs X N s₁.heap s₁.toks m us)
    (h : ∀ s₂ it, KS s₁ s₂ → Turning prog w X N tgt it (zipL l m) s s₂ → Q it s₂) : wpAny (model prog w) A (call (.type "zip") [.ref a, .ref b]) (fun x s₂ => wpAny (model prog w) A (pyIter x) Q E s₂) E s₁ := by
  refine call_zip_2 (islist ho) (islist ho') fun h' hz hTI hTO hi1 hi2 hsz hk => wpAny_pyIter_zip hz ?_
  have hlt := Heap.lt_size ho
  have hlt' := Heap.lt_size ho'
  have ks : KS s₁ { s₁ with heap := h' } := ⟨h', s₁.toks, rfl, hk, Nat.le_refl _⟩
  have hge : ∀ c, s₁.heap.objs.size ≤ c → s₁.heap.get? c = none := fun c hc => none_of_size hc
  have hI : ∀ c ∈ [s₁.heap.objs.size + 4, s₁.heap.objs.size + 3, s₁.heap.objs.size, s₁.heap.objs.size + 1], s₁.heap.get? c = none := fun c hc => by
    simp only [List.mem_cons, List.not_mem_nil, or_false] at hc
    rcases hc with rfl | rfl | rfl | rfl
    · exact hge _ (Nat.le_add_right _ _)
    · exact hge _ (Nat.le_add_right _ _)
    · exact hge _ (Nat.le_refl _)
    · exact hge _ (Nat.le_add_right _ _)
  have hlen := hr.length
  have hlen' := hr'.length
  obtain ⟨elts, kk, pos, rfl⟩ := pair_of hT
  have D : ZipApart (s₁.heap.objs.size + 4) (s₁.heap.objs.size + 2) (s₁.heap.objs.size + 3) s₁.heap.objs.size (s₁.heap.objs.size + 1) a b := ktu_apart _ _ _ hlt hlt'
  have K := fun (A' : Around) (hA : A'.handled = none) => KTurns.ofWalksU (elts := elts) (k := kk) (pos := pos) (WalksT.zip2 (prog := prog) (w := w) (A := A') hA _ _ _ _ _ _ _ D vs.toArray us.toArray).toU
  have e : min vs.toArray.size us.toArray.size = (zipL l m).length := by rw [zipL_length l m hlm]; simp only [List.size_toArray]; omega
  rw [e] at K
  refine h _ _ ks ⟨_, _, _, _, _, _, rfl, K, ?_, fun c hc => ?_, fun c hc => none_of_ks k (hI c hc), fun i h st c hc => ?_, fun A' E' i s' Q' hA' st q => (WalksT.zip2 (prog := prog) (w := w) (A := A') hA' _ _ _ _ _ _ _ D vs.toArray us.toArray).self i s' Q' E' st q, fun i v h tk p N' hv hp ht hn hk => ?_⟩
  · exact ⟨hz, hTI, ⟨_, _, hTO⟩, hi1, hi2, (islist ho).at fun o e => hk a o e, (islist ho').at fun o e => hk b o e⟩
  · simp only [List.mem_cons, List.not_mem_nil, or_false] at hc
    rcases hc with rfl | rfl | rfl | rfl | rfl | rfl | rfl
    · exact ⟨not_in_of_none nb (hge _ (Nat.le_add_right _ _)), by show (h'.get? _).isSome = true; rw [hz]; rfl⟩
    · exact ⟨not_in_of_none nb (hge _ (Nat.le_add_right _ _)), by show (h'.get? _).isSome = true; rw [hTI]; rfl⟩
    · exact ⟨not_in_of_none nb (hge _ (Nat.le_add_right _ _)), by show (h'.get? _).isSome = true; rw [hTO]; rfl⟩
    · obtain ⟨o1, ho1, _⟩ := hi1
      exact ⟨not_in_of_none nb (hge _ (Nat.le_refl _)), by show (h'.get? _).isSome = true; rw [ho1]; rfl⟩
    · obtain ⟨o1, ho1, _⟩ := hi2
      exact ⟨not_in_of_none nb (hge _ (Nat.le_add_right _ _)), by show (h'.get? _).isSome = true; rw [ho1]; rfl⟩
    · exact ⟨hN, some_of_ks ks (by rw [ho]; rfl)⟩
    · exact ⟨hN', some_of_ks ks (by rw [ho']; rfl)⟩
  · obtain ⟨hz, hTI, ⟨x, y, hTO⟩, ⟨o1, ho1, _⟩, ⟨o2, ho2, _⟩, _⟩ := st
    simp only [List.mem_cons, List.not_mem_nil, or_false] at hc
    rcases hc with rfl | rfl | rfl | rfl
    · rw [hz]; rfl
    · rw [hTO]; rfl
    · rw [ho1]; rfl
    · rw [ho2]; rfl
  · obtain ⟨T, vals, rfl, ⟨x, y, hx, hy, rfl⟩, hTu⟩ := hv
    obtain ⟨q, r, hq, hr₂, rfl⟩ := zipL_get l m i hp
    obtain ⟨u, hu, hru⟩ := hr.get hq
    obtain ⟨u', hu', hru'⟩ := hr'.get hr₂
    have hx : vs[i]? = some x := by simpa using hx
    have hy : us[i]? = some y := by simpa using hy
    rw [hu] at hx
    rw [hu'] at hy
    cases hx
    cases hy
    exact .inr ⟨T, _, _, rfl, rfl, hTu, .cons _ _ _ _ (rel_turn ks hI ht hn hk hru) (.cons _ _ _ _ (rel_turn ks hI ht hn hk hru') .nil), hT⟩
end
end Mine
end

section
set_option maxHeartbeats 1000000
open PySem PySem.Calls PyProof.Rows PySem.Spec PySem.Builtin PySem.Builtin.Str PySem.W
namespace Mine

section
variable {prog : Program} {w : World} {X : ObjW} {G : GCtx} {mg mb : Str → Option Value} {ev : Ev} {n : Nat}
variable {A : Around} {E : Value → Shared → Prop} {s s₁ s₂ : Shared} {N W : Addr → Prop} {env : Env} {ε : LEnv} {tgt : Expr}

theorem range_turn {ps qs : List PV} {vs : List Value} {Q : Value → Shared → Prop} (nb : ∀ b, N b → (s₁.heap.get? b).isSome = true) (k : KS s s₁) (h : rangeB qs = some ps) (r : RelVs X N s₁.heap s₁.toks qs vs)
    (hQ : ∀ s₂ it, KS s s₂ → Turning prog w X N tgt it ps s s₂ → Q it s₂) : wpAny (model prog w) A (call (bkVal .range) vs) (fun v s₁ => wpAny (model prog w) A (pyIter v) Q E s₁) E s₁ := by
  have nb' : ∀ {s₃ : Shared}, KS s₁ s₃ → ∀ b, N b → (s₃.heap.get? b).isSome = true := fun k b z => some_of_ks k (nb b z)
  cases qs with
  | nil => exact no_some h
  | cons p q => cases q with
    | nil => cases p with
      | int b =>
        obtain ⟨c, rfl⟩ := if_some h
        rw [Bool.and_eq_true] at c
        apply r.consC; intro v vs h1 h2
        apply h2.nilC
        apply h1.intC; intro t
        refine call_range_1 ?_
        have k₂ : KS s₁ { s₁ with heap := s₁.heap.push { cls := .type "range", data := .fields #[.int 0 s₁.toks, .int b t, .int 1 (s₁.toks + 1)] }, toks := s₁.toks + 1 + 1 } := KS.push _ (Nat.le_trans (Nat.le_succ _) (Nat.le_succ _))
        exact turn_range (N := N) (by decide) c.1 (nb' k₂) (k.trans k₂) (IsRange.new _ _ _ _ _ _ _) fun s₃ it k₃ T => hQ s₃ it ((k.trans k₂).trans k₃) T
      | _ => exact no_some h
    | cons q' r' =>
      obtain ⟨ij, hij, h⟩ := Option.bind_eq_some_iff.mp h
      obtain ⟨c, rfl⟩ := if_some h
      rw [Bool.and_eq_true, Bool.and_eq_true] at c
      apply int2C (D := fun vs => wpAny (model prog w) A (call (bkVal .range) vs) _ E s₁) hij r; intro t u
      refine call_range_2 ?_
      have k₂ : KS s₁ { s₁ with heap := s₁.heap.push { cls := .type "range", data := .fields #[.int ij.1 t, .int ij.2 u, .int 1 s₁.toks] }, toks := s₁.toks + 1 } := KS.push _ (Nat.le_succ _)
      exact turn_range (N := N) c.1.1 c.1.2 (nb' k₂) (k.trans k₂) (IsRange.new _ _ _ _ _ _ _) fun s₃ it k₃ T => hQ s₃ it ((k.trans k₂).trans k₃) T

theorem asLst_some {p : PV} {l : List PV} (h : asLst p = some l) : p = .lst l := by
  cases p with
  | lst m => obtain rfl := Option.some.inj h; rfl
  | _ => exact no_some h

theorem zip_turn {ps qs : List PV} {vs : List Value} {Q : Value → Shared → Prop} (hT : isPair tgt = true) (nb : ∀ b, N b → (s₁.heap.get? b).isSome = true) (k : KS s s₁) (h : zipB qs = some ps) (r : RelVs X N s₁.heap s₁.toks qs vs)
    (hQ : ∀ s₂ it, KS s s₂ → Turning prog w X N tgt it ps s s₂ → Q it s₂) : wpAny (model prog w) A (call (bkVal .zip) vs) (fun v s₁ => wpAny (model prog w) A (pyIter v) Q E s₁) E s₁ := by
  obtain ⟨ab, hab, h⟩ := Option.bind_eq_some_iff.mp h
  obtain ⟨l, hl, h⟩ := Option.bind_eq_some_iff.mp h
  obtain ⟨m, hm, h⟩ := Option.bind_eq_some_iff.mp h
  obtain ⟨c, rfl⟩ := if_some h
  obtain rfl := two_some hab
  rw [asLst_some hl, asLst_some hm] at r
  apply r.consC; intro v vs h1 h2
  apply h2.consC; intro u us h2 h3
  apply h3.nilC
  apply h1.lstC; intro a xs n hN ho hl hr
  apply h2.lstC; intro a' xs' n' hN' ho' hl' hr'
  exact turn_zip hT (beq_iff_eq.mp c) nb k hN ho hr hN' ho' hr' fun s₃ it k₃ T => hQ s₃ it (k.trans k₃) T

theorem enum_turn {ps qs : List PV} {vs : List Value} {Q : Value → Shared → Prop} (hT : isPair tgt = true) (nb : ∀ b, N b → (s₁.heap.get? b).isSome = true) (k : KS s s₁) (h : (one qs).bind enumB = some ps) (r : RelVs X N s₁.heap s₁.toks qs vs)
    (hQ : ∀ s₂ it, KS s s₂ → Turning prog w X N tgt it ps s s₂ → Q it s₂) : wpAny (model prog w) A (call (bkVal .enumerate) vs) (fun v s₁ => wpAny (model prog w) A (pyIter v) Q E s₁) E s₁ := by
  obtain ⟨p, hp, h⟩ := Option.bind_eq_some_iff.mp h
  obtain rfl := one_some hp
  apply r.consC; intro v vs h1 h2
  apply h2.nilC
  cases p with
  | lst l =>
    obtain rfl := Option.some.inj h
    apply h1.lstC; intro a xs n hN ho hl hr
    exact turn_enumL hT nb k hN ho hr fun s₃ it k₃ T => hQ s₃ it (k.trans k₃) T
  | str x g =>
    obtain ⟨c, rfl⟩ := if_some h
    apply h1.strC; intro t hl hg
    exact turn_enumS hT c nb k fun s₃ it k₃ T => hQ s₃ it (k.trans k₃) T
  | _ => exact no_some h

theorem iterName_some {sc : Scope} {x : Expr} {ka : BK × List Expr} (h : iterName G sc x = some ka) : ∃ g px pos, x = .Call (.Name g px) ka.2 [] pos ∧ glob sc g = true ∧ G.fns.lookup g = none ∧ bkOf g = some ka.1 ∧ isIt ka.1 = true := by
  cases x with
  | Call f args kws pos => cases f with
    | Name g px => cases kws with
      | nil =>
        obtain ⟨c, h⟩ := if_some2 h
        rw [Bool.and_eq_true] at c
        obtain ⟨k, hk, h⟩ := Option.bind_eq_some_iff.mp h
        obtain ⟨hi, rfl⟩ := if_some h
        exact ⟨g, px, pos, rfl, c.1, Option.isNone_iff_eq_none.mp c.2, hk, hi⟩
      | cons => exact no_some h
    | _ => exact no_some h
  | _ => exact no_some h

theorem iterB_turn {k₀ : BK} {ps qs : List PV} {vs : List Value} {Q : Value → Shared → Prop} (hT : (k₀ == .range || isPair tgt) = true) (nb : ∀ b, N b → (s₁.heap.get? b).isSome = true) (k : KS s s₁) (h : iterB k₀ qs = some ps) (r : RelVs X N s₁.heap s₁.toks qs vs)
    (hQ : ∀ s₂ it, KS s s₂ → Turning prog w X N tgt it ps s s₂ → Q it s₂) : wpAny (model prog w) A (call (bkVal k₀) vs) (fun v s₁ => wpAny (model prog w) A (pyIter v) Q E s₁) E s₁ := by
  cases k₀ with
  | range => exact range_turn nb k h r hQ
  | zip => exact zip_turn hT nb k h r hQ
  | enumerate => exact enum_turn hT nb k h r hQ
  | _ => exact no_some h

theorem iter_sound (XO : XOk prog w X) (S : Snd prog w X G mg mb ev n) (hR : Room n A) {x : Expr} {ps : List PV} {Q : Value → Shared → Prop} (g : Gnd X G mg mb s.heap) (e : EnvAt X N W s.heap s.toks env ε) (h : iterV G ev env.scope ε tgt x = some ps)
    (hQ : ∀ s₂ it, KS s s₂ → Turning prog w X N tgt it ps s s₂ → Q it s₂) : wpAny (model prog w) A (eval x env) (fun v s₁ => wpAny (model prog w) A (pyIter v) Q E s₁) E s := by
  unfold iterV at h
  cases hi : iterName G env.scope x with
  | some ka =>
    rw [hi] at h
    obtain ⟨c, h'⟩ := if_some2 h
    rw [Bool.and_eq_true] at c
    obtain ⟨qs, hqs, h''⟩ := Option.bind_eq_some_iff.mp h'
    obtain ⟨gn, px, pos, rfl, hg, hf, hk, -⟩ := iterName_some hi
    refine wpAny_bind (load_bi g e hg hk hf ?_)
    exact call_any (P := fun _ => True) XO S hR (fun h _ => keeper_bk ka.1 h) g e hqs (fun _ _ => trivial) fun s₁ vs k₁ r₁ => iterB_turn c.1 (e.ks k₁).nb k₁ h'' r₁ hQ
  | none =>
    rw [hi] at h
    obtain ⟨p, hp, h⟩ := Option.bind_eq_some_iff.mp h
    refine wpAny_mono (S.E A E s N W env ε x p hR g e hp) (fun v s₁ h₁ => ?_) fun _ _ q => q
    exact turn_items (e.ks h₁.1).nb h₁.1 h h₁.2 fun s₃ it k₃ T => hQ s₃ it (h₁.1.trans k₃) T

theorem unpack_list2 {a : Addr} {x y : Value} {n : Nat} {Q : List Value → Shared → Prop} (hh : A.handled = none) (ho : s.heap.get? a = some (seqO "list" [x, y] n)) (hQ : ∀ s', KS s s' → Q [x, y] s') :
    wpAny (model prog w) A (unpackItems (.ref a) 2 none) Q E s := by
  have hl := islist ho
  have hlt := Heap.lt_size ho
  unfold unpackItems
  refine wpAny_bind ?_
  unfold notIterableAtAll
  refine wpAny_bind (wpAny_specialOf hl.typeIs slot_list_iter.lookup ?_)
  refine wpAny_pure ?_
  simp only [Bool.false_eq_true, if_false]
  refine wpAny_bind (wpAny_holding (wpAny_pyIter_list hl ?_))
  have Wk := Walks.list (prog := prog) (w := w) (A := A) hh s.heap.objs.size a (Nat.ne_of_lt hlt) [x, y].toArray
  have key : ∀ h', (∀ b o, b ∉ [s.heap.objs.size] → (s.heap.push { cls := .type "list_iterator", data := .fields #[.ref a, .int 0 0] }).get? b = some o → h'.get? b = some o) → Sub s.heap h' := fun h' hk b o q =>
    hk b o (fun z => by rw [List.mem_singleton.mp z] at q; exact absurd (Heap.lt_size q) (Nat.lt_irrefl _)) (Heap.get?_push_of_some _ q)
  refine wp_toks_here ?_
  refine wpAny_bind (wpAny_holding ?_)
  show wpAny _ _ (pyNext (.ref s.heap.objs.size) >>= _) _ E _
  refine wpAny_bind (Wk.item 0 _ _ _ (by simp) ⟨⟨_, Heap.get?_push_size _ rfl, rfl, rfl⟩, hl.at fun o e => Heap.get?_push_of_some _ e⟩ fun v h₁ tk₁ hv st₁ hk₁ => ?_)
  have hv : v = x := by simpa using hv.symm
  subst hv
  refine wpAny_bind (wpAny_holding ?_)
  show wpAny _ _ (pyNext (.ref s.heap.objs.size) >>= _) _ E _
  refine wpAny_bind (Wk.item 1 _ _ _ (by simp) st₁ fun v' h₂ tk₂ hv' st₂ hk₂ => ?_)
  have hv' : v' = y := by simpa using hv'.symm
  subst hv'
  refine wpAny_bind (wpAny_holding (wpAny_pure (wpAny_pure (wpAny_pure ?_))))
  rw [if_neg (by simp)]
  refine wpAny_bind (wpAny_holding (Wk.done _ _ _ st₂ fun h₃ tk₃ hk₃ => ?_))
  simp only [Option.isSome_none, Bool.false_eq_true, if_false]
  refine wpAny_pure fun ht => hQ _ ⟨h₃, tk₃, rfl, key h₃ fun b o nb q => hk₃ b o nb (hk₂ b o nb (hk₁ b o nb q)), ht⟩
end
end Mine
end

section
set_option maxHeartbeats 1000000
open PySem PySem.Calls PyProof.Rows PySem.Spec PySem.Builtin PySem.Builtin.Str PySem.W
namespace Mine

theorem lookup_of_nodup {α : Type} : ∀ {l : List (Str × α)} {n : Str} {k : α}, (l.map (·.1)).Nodup → (n, k) ∈ l → l.lookup n = some k
  | [], _, _, _, h => nomatch h
  | (m, j) :: r, n, k, hn, h => by
    rw [List.map_cons, List.nodup_cons] at hn
    rcases List.mem_cons.mp h with e | h
    · cases e; rw [List.lookup_cons, beq_self_eq_true]
    · have hne : n ≠ m := fun q => hn.1 (List.mem_map.mpr ⟨(n, k), h, q⟩)
      rw [List.lookup_cons, beq_eq_false_iff_ne.mpr hne]
      exact lookup_of_nodup hn.2 h

theorem lookup_none_of {α : Type} : ∀ {l : List (Str × α)} {n : Str}, n ∉ l.map (·.1) → l.lookup n = none
  | [], _, _ => rfl
  | (m, j) :: r, n, h => by
    rw [List.map_cons, List.mem_cons, not_or] at h
    rw [List.lookup_cons, beq_eq_false_iff_ne.mpr h.1]
    exact lookup_none_of h.2

/-- which cell of its own a name has -/
noncomputable def cellNo : List (Str × NameKind) → Str → Option Nat
  | [], _ => none
  | (y, k) :: r, x => if k == .cell then (if x == y then some 0 else (cellNo r x).map (· + 1)) else cellNo r x

theorem cellNo_none {x : Str} : ∀ {l : List (Str × NameKind)}, l.lookup x ≠ some .cell → (l.map (·.1)).Nodup → cellNo l x = none
  | [], _, _ => rfl
  | (y, k) :: r, h, hn => by
    rw [List.map_cons, List.nodup_cons] at hn
    unfold cellNo
    by_cases hxy : x = y
    · subst hxy
      rw [List.lookup_cons, beq_self_eq_true] at h
      have hk : (k == NameKind.cell) = false := beq_eq_false_iff_ne.mpr fun e => h (by rw [e])
      rw [hk]
      simp only [Bool.false_eq_true, if_false]
      exact cellNo_none (by rw [lookup_none_of hn.1]; exact fun e => nomatch e) hn.2
    · have hb : (x == y) = false := beq_eq_false_iff_ne.mpr hxy
      rw [List.lookup_cons, hb] at h
      rw [hb, cellNo_none h hn.2]
      simp
theorem cellNo_some {x : Str} : ∀ {l : List (Str × NameKind)}, l.lookup x = some .cell → ∃ i, cellNo l x = some i
  | [], h => by cases h
  | (y, k) :: r, h => by
    unfold cellNo
    by_cases hxy : x = y
    · subst hxy
      rw [List.lookup_cons, beq_self_eq_true] at h
      cases h
      exact ⟨0, by simp⟩
    · have hb : (x == y) = false := beq_eq_false_iff_ne.mpr hxy
      rw [List.lookup_cons, hb] at h
      obtain ⟨i, hi⟩ := cellNo_some h
      rw [hb, hi]
      by_cases hk : (k == NameKind.cell) = true
      · exact ⟨i + 1, by simp [hk]⟩
      · exact ⟨i, by simp [hk]⟩
theorem cellNo_inj {x y : Str} : ∀ {l : List (Str × NameKind)} {i : Nat}, cellNo l x = some i → cellNo l y = some i → x = y
  | [], _, h, _ => by cases h
  | (z, k) :: r, i, h, h' => by
    unfold cellNo at h h'
    split at h
    · rename_i hk
      rw [if_pos hk] at h'
      split at h
      · rename_i hx
        cases h
        split at h'
        · rename_i hy
          rw [beq_iff_eq.mp hx, beq_iff_eq.mp hy]
        · rw [Option.map_eq_some_iff] at h'
          obtain ⟨j, _, e⟩ := h'
          cases e
      · rw [Option.map_eq_some_iff] at h
        obtain ⟨j, hj, e⟩ := h
        split at h'
        · cases h'; cases e
        · rw [Option.map_eq_some_iff] at h'
          obtain ⟨j', hj', e'⟩ := h'
          have : j = j' := by omega
          subst this
          exact cellNo_inj hj hj'
    · rename_i hk
      rw [if_neg hk] at h'
      exact cellNo_inj h h'

theorem cellsFrom_lookup {x : Str} : ∀ (l : List (Str × NameKind)) (n : Nat) (acc : List (Str × Addr)), (l.map (·.1)).Nodup → (cellsFrom n l acc).lookup x = match cellNo l x with | some i => some (n + i) | none => acc.lookup x
  | [], n, acc, _ => rfl
  | (y, k) :: r, n, acc, hn => by
    rw [List.map_cons, List.nodup_cons] at hn
    unfold cellsFrom cellNo
    split
    · rw [cellsFrom_lookup r (n + 1) _ hn.2]
      by_cases hxy : x = y
      · subst hxy
        rw [cellNo_none (l := r) (by rw [lookup_none_of hn.1]; exact fun e => nomatch e) hn.2]
        simp
      · have hb : (x == y) = false := beq_eq_false_iff_ne.mpr hxy
        rw [hb]
        cases cellNo r x with
        | none => simp [List.lookup_cons, hb]
        | some i => exact congrArg some (by rw [Nat.add_assoc, Nat.add_comm 1 i])
    · exact cellsFrom_lookup r n acc hn.2

noncomputable def clOf (env : Env) : List (Str × NameKind) → List (Str × Addr) → List (Str × Addr)
  | [], acc => acc
  | (n, k) :: r, acc => if k == .free then clOf env r ((n, (env.cells.lookup n).getD 0) :: acc) else clOf env r acc

theorem clOf_lookup {env : Env} {x : Str} : ∀ (l : List (Str × NameKind)) (acc : List (Str × Addr)), (l.map (·.1)).Nodup → (clOf env l acc).lookup x = if l.lookup x = some .free then some ((env.cells.lookup x).getD 0) else acc.lookup x
  | [], acc, _ => by simp [clOf]
  | (y, k) :: r, acc, hn => by
    rw [List.map_cons, List.nodup_cons] at hn
    unfold clOf
    by_cases hxy : x = y
    · subst hxy
      rw [List.lookup_cons, beq_self_eq_true]
      split
      · rename_i hk
        rw [clOf_lookup r _ hn.2, if_neg (by rw [lookup_none_of hn.1]; exact fun e => nomatch e)]
        rw [if_pos (by rw [beq_iff_eq.mp hk])]
        simp
      · rename_i hk
        rw [clOf_lookup r _ hn.2, if_neg (by rw [lookup_none_of hn.1]; exact fun e => nomatch e)]
        rw [if_neg (by intro e; cases e; exact hk rfl)]
    · have hb : (x == y) = false := beq_eq_false_iff_ne.mpr hxy
      rw [List.lookup_cons, hb]
      split
      · rw [clOf_lookup r _ hn.2, List.lookup_cons, hb]
      · rw [clOf_lookup r _ hn.2]

theorem closure_pure {env : Env} : ∀ (l : List (Str × NameKind)) (acc : List (Str × Addr)) (f : Str × NameKind → List (Str × Addr) → Sem (ForInStep (List (Str × Addr)))),
    (∀ n k cs, f (n, k) cs = if k == .free then (do let c ← cellOf env n; pure (.yield ((n, c) :: cs))) else pure (.yield cs)) → (∀ n, (n, NameKind.free) ∈ l → ∃ c, env.cells.lookup n = some c) → forIn l acc f = pure (clOf env l acc)
  | [], acc, f, _, _ => by rw [List.forIn_nil]; rfl
  | (n, k) :: r, acc, f, hf, h => by
    rw [List.forIn_cons, hf]
    unfold clOf
    split
    · rename_i hk
      rw [beq_iff_eq] at hk
      subst hk
      obtain ⟨c, hc⟩ := h n (List.mem_cons_self ..)
      have : cellOf env n = pure c := by unfold cellOf; rw [hc]
      rw [this, hc]
      simp only [pure_bind, Option.getD_some]
      exact closure_pure r _ f hf fun m hm => h m (List.mem_cons_of_mem _ hm)
    · simp only [pure_bind]
      exact closure_pure r _ f hf fun m hm => h m (List.mem_cons_of_mem _ hm)

theorem closureFor_pure {s : Scope} {env : Env} (h : ∀ n, (n, NameKind.free) ∈ s.names → ∃ c, env.cells.lookup n = some c) : closureFor s env = pure (clOf env s.names []) := by
  have e := closure_pure (env := env) s.names [] (fun x cs => match x with | (n, k) => if k == NameKind.free then (do let c ← cellOf env n; pure (ForInStep.yield ((n, c) :: cs))) else pure (ForInStep.yield cs)) (fun n k cs => rfl) h
  show (forIn s.names [] (fun x cs => match x with | (n, k) => if k == NameKind.free then (do let c ← cellOf env n; pure (ForInStep.yield ((n, c) :: cs))) else pure (ForInStep.yield cs)) >>= fun cs => pure cs) = _
  rw [e]
  simp

section
variable {M : Model} {A : Around} {E : Value → Shared → Prop} {s : Shared}
theorem newEnv_comp {scope : Scope} {globals : Addr} {cl : List (Str × Addr)} {qual : Str} {outer : Env} {Q : Env → Shared → Prop}
    (hQ : Q (newEnv scope s.heap.objs.size globals (cellsFrom (s.heap.objs.size + 1) scope.names cl) qual none .none (some outer) builtinsNs) { s with heap := pushCells (s.heap.push { cls := .type "dict", data := .dict #[] }) scope.names }) :
    wpAny M A (newFunctionEnv scope globals cl [] qual none .none (some outer)) Q E s := by
  simp only [newFunctionEnv, Option.isSome_some, if_true]
  refine wpAny_bind (wpAny_alloc ?_)
  refine wpAny_bind (wpAny_layCells _ (fun name kind cells => by cases hkc : kind == NameKind.cell <;> simp [hkc]) _ _ _ _ ?_)
  rw [show ({ s with heap := s.heap.push { cls := .type "dict", data := .dict #[] } } : Shared).heap.objs.size = s.heap.objs.size + 1 from Heap.size_push ..]
  refine wpAny_bind ?_
  rw [List.forIn_nil]
  exact wpAny_pure (wpAny_pure hQ)
end
end Mine
end

section
set_option maxHeartbeats 1000000
open PySem PySem.Calls PyProof.Rows PySem.Spec PySem.Builtin PySem.Builtin.Str PySem.W
namespace Mine

section
variable {prog : Program} {w : World} {X : ObjW} {G : GCtx} {mg mb : Str → Option Value} {ev : Ev} {n : Nat}
variable {A : Around} {E : Value → Shared → Prop} {s s₁ s₂ : Shared} {N W : Addr → Prop} {env : Env} {ε ε' : LEnv} {tgt : Expr}

/-- stores into W's places only; the letters then -/
inductive Kept (X : ObjW) (N W : Addr → Prop) (s : Shared) (env : Env) (ε' : LEnv) (s' : Shared) : Prop
  | mk (h' : Heap) (tk : Nat) (e : s' = { s with heap := h', toks := tk }) (ht : s.toks ≤ tk) (hk : ∀ b o, ¬ W b → s.heap.get? b = some o → h'.get? b = some o) (ha : ∀ b, (s.heap.get? b).isSome = true → (h'.get? b).isSome = true) (env' : EnvAt X N W h' tk env ε') : Kept X N W s env ε' s'

theorem Kept.rel {s' : Shared} {p : PV} {v : Value} (wn : ∀ b, W b → N b) (k : Kept X N W s env ε' s') (r : RelV X N s.heap s.toks p v) : RelV X N s'.heap s'.toks p v := by
  obtain ⟨h', tk, rfl, ht, hk, ha, e⟩ := k
  exact r.tr (fun b o n q => ⟨n, hk b o (fun z => n (wn b z)) q⟩) ht
theorem Kept.at {s' : Shared} (k : Kept X N W s env ε' s') : EnvAt X N W s'.heap s'.toks env ε' := by
  obtain ⟨h', tk, rfl, ht, hk, ha, e⟩ := k
  exact e
theorem Kept.trans {ε'' : LEnv} {s' s'' : Shared} (k : Kept X N W s env ε' s') (k' : Kept X N W s' env ε'' s'') : Kept X N W s env ε'' s'' := by
  obtain ⟨h', tk, rfl, ht, hk, ha, e⟩ := k
  obtain ⟨h'', tk', rfl, ht', hk', ha', e'⟩ := k'
  exact ⟨h'', tk', rfl, Nat.le_trans ht ht', fun b o n q => hk' b o n (hk b o n q), fun b q => ha' b (ha b q), e'⟩
theorem Kept.from {s' s'' : Shared} (k : KS s s') (k' : Kept X N W s' env ε' s'') : Kept X N W s env ε' s'' := by
  obtain ⟨h', tk, rfl, hs, ht⟩ := k
  obtain ⟨h'', tk', rfl, ht', hk', ha', e'⟩ := k'
  exact ⟨h'', tk', rfl, Nat.le_trans ht ht', fun b o n q => hk' b o n (hs b o q), fun b q => ha' b (by
    obtain ⟨o, ho⟩ := Option.isSome_iff_exists.mp q
    show (h'.get? b).isSome = true
    rw [hs b o ho]; rfl), e'⟩

noncomputable def Places (W : Addr → Prop) (env : Env) (x : Str) : Prop := ∀ c, env.kindOf x = some .cell → env.cells.lookup x = some c → W c

theorem store_kept {x : Str} {p : PV} {v : Value} {Q : Unit → Shared → Prop} (e : EnvAt X N W s.heap s.toks env ε) (hr : RelV X N s.heap s.toks p v) (hpl : Places W env x) (hs : setV env.scope ε x p = some ε')
    (hQ : ∀ s', Kept X N W s env ε' s' → Q () s') : wpAny (model prog w) A (storeName env x v) Q E s :=
  store_var e hr hpl hs fun h' tk ht hk ha e' => hQ _ ⟨h', tk, rfl, ht, hk, ha, e'⟩

theorem assign_name {x : Str} {px : Pos} {p : PV} {v : Value} {Q : Unit → Shared → Prop} (e : EnvAt X N W s.heap s.toks env ε) (hr : RelV X N s.heap s.toks p v) (hpl : Places W env x) (hs : setV env.scope ε x p = some ε')
    (hQ : ∀ s', Kept X N W s env ε' s' → Q () s') : wpAny (model prog w) A (assign (.Name x px) env v) Q E s :=
  PyProof.Rows.assign_Name (store_kept e hr hpl hs hQ)

theorem two_names {x y : Str} {px py : Pos} {p q : PV} {v u : Value} {ε₁ : LEnv} {Q : Unit → Shared → Prop} (e : EnvAt X N W s.heap s.toks env ε) (hp : RelV X N s.heap s.toks p v) (hq : RelV X N s.heap s.toks q u)
    (hx : Places W env x) (hy : Places W env y) (h1 : setV env.scope ε x p = some ε₁) (h2 : setV env.scope ε₁ y q = some ε') (hQ : ∀ s', Kept X N W s env ε' s' → Q () s') :
    wpAny (model prog w) A (assignInOrder [assign (.Name x px) env, assign (.Name y py) env] [v, u]) Q E s := by
  refine wpAny_bind (wpAny_holding (assign_name e hp hx h1 fun s₁ k₁ => ?_))
  refine wpAny_bind (wpAny_holding (assign_name k₁.at (k₁.rel e.wn hq) hy h2 fun s₂ k₂ => ?_))
  exact wpAny_pure (hQ s₂ (k₁.trans k₂))

theorem RelVs.twoC {p q : PV} {vs : List Value} {h : Heap} {tk : Nat} {D : List Value → Prop} (r : RelVs X N h tk [p, q] vs) (k : ∀ v u, RelV X N h tk p v → RelV X N h tk q u → D [v, u]) : D vs := by
  apply r.consC; intro v vs h1 h2
  apply h2.consC; intro u us h2 h3
  apply h3.nilC
  exact k v u h1 h2

theorem ks_extBut {h' : Heap} (he : Heap.ExtBut s.heap.objs.size s.heap h') : KS s { s with heap := h' } :=
  ⟨h', s.toks, rfl, fun b o q => he b o (fun z => by rw [z] at q; exact absurd (Heap.lt_size q) (Nat.lt_irrefl _)) q, Nat.le_refl _⟩

theorem unpack_tup {p q : PV} {T : Addr} {vals : Array Value} {Q : List Value → Shared → Prop} (hh : A.handled = none) (hT : s.heap.IsTuple T vals) (hr : RelVs X N s.heap s.toks [p, q] vals.toList)
    (hQ : ∀ s' v u, KS s s' → RelV X N s'.heap s'.toks p v → RelV X N s'.heap s'.toks q u → Q [v, u] s') : wpAny (model prog w) A (unpackItems (.ref T) 2 none) Q E s := by
  have hsz : vals.size = 2 := by rw [← Array.length_toList, ← hr.length]; rfl
  have key := wpAny_unpackItems_tuple (prog := prog) (w := w) (A := A) (E := E) (s := s) (Q := Q) hh hT fun h' he => by
    have k := ks_extBut he
    exact RelVs.twoC (D := fun l => Q l _) (hr.ks k) fun v u h1 h2 => hQ _ v u k h1 h2
  rwa [hsz] at key

theorem unp_some {p : PV} {pq : PV × PV} (h : unp p = some pq) : p = .tup [pq.1, pq.2] ∨ p = .lst [pq.1, pq.2] := by
  cases p with
  | tup l => rw [two_some (a := pq) h]; exact .inl rfl
  | lst l => rw [two_some (a := pq) h]; exact .inr rfl
  | _ => exact no_some h

theorem unpack_two {p : PV} {pq : PV × PV} {v : Value} {Q : List Value → Shared → Prop} (hh : A.handled = none) (hu : unp p = some pq) (hi : ItemIs X N s.heap s.toks tgt p v)
    (hQ : ∀ s' v u, KS s s' → RelV X N s'.heap s'.toks pq.1 v → RelV X N s'.heap s'.toks pq.2 u → Q [v, u] s') : wpAny (model prog w) A (unpackItems v 2 none) Q E s := by
  rcases hi with hr | ⟨T, vals, ps, rfl, rfl, hT, hr, _⟩
  · rcases unp_some hu with rfl | rfl
    · apply hr.tupC; intro a vs n hN ho hl hr
      exact unpack_tup hh ⟨_, ho, rfl, n, rfl⟩ (by simpa using hr) hQ
    · apply hr.lstC; intro a vs n hN ho hl hr
      revert ho
      apply hr.twoC; intro v u h1 h2 ho
      exact unpack_list2 hh ho fun s' k => hQ s' v u k (h1.ks k) (h2.ks k)
  · obtain rfl := two_some (a := pq) hu
    exact unpack_tup hh hT hr hQ

theorem tgtNames_pair {es : List Expr} {k : Nat} {tp : Pos} {xy : Str × Str} (h : names2 es = some xy) : tgtNames (.Tuple es k tp) = [xy.1, xy.2] := by
  show (match names2 es with | some xy => [xy.1, xy.2] | none => []) = _
  rw [h]

theorem bindT_sound {p : PV} {v : Value} {Q : Unit → Shared → Prop} (hh : A.handled = none) (e : EnvAt X N W s.heap s.toks env ε) (hpl : ∀ x ∈ tgtNames tgt, Places W env x) (hi : ItemIs X N s.heap s.toks tgt p v) (h : bindT env.scope ε tgt p = some ε')
    (hQ : ∀ s', Kept X N W s env ε' s' → Q () s') : wpAny (model prog w) A (assign tgt env v) Q E s := by
  cases tgt with
  | Name x px =>
    rcases hi with hr | ⟨T, vals, ps, _, _, _, _, hp⟩
    · exact assign_name e hr (hpl x (List.mem_cons_self ..)) h hQ
    · exact no_ft hp
  | Tuple es k tp =>
    obtain ⟨xy, hn, h⟩ := Option.bind_eq_some_iff.mp h
    obtain ⟨pq, hu, h⟩ := Option.bind_eq_some_iff.mp h
    obtain ⟨ε₁, h1, h2⟩ := Option.bind_eq_some_iff.mp h
    rw [tgtNames_pair hn] at hpl
    obtain ⟨px, py, rfl⟩ := names2_some hn
    rw [arm_assign_Tuple]
    refine wpAny_bind (wpAny_standAt ?_)
    unfold unpack
    refine wpAny_bind (wpAny_holding (unpack_two hh hu hi fun s' v u ks rp rq => ?_))
    exact two_names (e.ks ks) rp rq (hpl _ (List.mem_cons_self ..)) (hpl _ (List.mem_cons_of_mem _ (List.mem_cons_self ..))) h1 h2 fun s'' k => hQ s'' (k.from ks)
  | _ => exact no_some h

theorem setV_others {sc : Scope} {x : Str} {p : PV} (h : setV sc ε x p = some ε') : (∀ y, y ≠ x → ε'.vars.lookup y = ε.vars.lookup y) ∧ ε'.own = ε.own := by
  obtain ⟨_, _, rfl⟩ := setV_iff h
  exact ⟨fun y hy => by show (upd x p ε.vars).lookup y = _; rw [lookup_upd, if_neg hy], rfl⟩
theorem bindT_others {sc : Scope} {p : PV} (h : bindT sc ε tgt p = some ε') : (∀ y, y ∉ tgtNames tgt → ε'.vars.lookup y = ε.vars.lookup y) ∧ ε'.own = ε.own := by
  cases tgt with
  | Name x px =>
    obtain ⟨a1, a2⟩ := setV_others h
    exact ⟨fun y hy => a1 y fun z => hy (by rw [z]; exact List.mem_cons_self ..), a2⟩
  | Tuple es k tp =>
    obtain ⟨xy, hn, h⟩ := Option.bind_eq_some_iff.mp h
    obtain ⟨pq, hu, h⟩ := Option.bind_eq_some_iff.mp h
    obtain ⟨ε₁, h1, h2⟩ := Option.bind_eq_some_iff.mp h
    rw [tgtNames_pair hn]
    obtain ⟨a1, a2⟩ := setV_others h1
    obtain ⟨b1, b2⟩ := setV_others h2
    exact ⟨fun z hz => by
      rw [List.mem_cons, List.mem_singleton, not_or] at hz
      rw [b1 z hz.2, a1 z hz.1], by rw [b2, a2]⟩
  | _ => exact no_some h

theorem EnvAt.weaken {h : Heap} {tk : Nat} (e : EnvAt X N W h tk env ε') (hv : ∀ x p, ε.vars.lookup x = some p → ε'.vars.lookup x = some p) (ho : ε.own = none) : EnvAt X N W h tk env ε where
  tp := e.tp
  wn := e.wn
  kind := e.kind
  glo := e.glo
  bui := e.bui
  ns := e.ns
  nL := e.nL
  nC := e.nC
  cell := e.cell
  inj := e.inj
  ck := e.ck
  nb := e.nb
  vars := fun x p q => e.vars x p (hv x p q)
  own := fun x l q => by rw [ho] at q; cases q

theorem lookup_filter (P : Str → Bool) (x : Str) : ∀ l : List (Str × PV), (l.filter fun (y, _) => P y).lookup x = if P x then l.lookup x else none
  | [] => by simp
  | (y, q) :: r => by
    have ih := lookup_filter P x r
    rw [List.filter_cons]
    by_cases hxy : x = y
    · subst hxy
      by_cases hP : P x = true
      · simp [hP, List.lookup_cons]
      · rw [if_neg hP, if_neg hP, ih, if_neg hP]
    · have hb : (x == y) = false := beq_eq_false_iff_ne.mpr hxy
      by_cases hP : P y = true
      · simp only [hP, if_true, List.lookup_cons, hb]; exact ih
      · simp only [Bool.not_eq_true] at hP
        simp only [hP, Bool.false_eq_true, if_false, List.lookup_cons, hb]; exact ih

theorem relabel_lookup {sc : Scope} {x : Str} (hk : env.scope.kind = .function) : (relabel sc env).names.lookup x = match sc.names.lookup x with
    | some .free => if env.kindOf x = some .cell then some .cell else some .free
    | o => o := by
  have : ∀ l : List (Str × NameKind), (l.map fun (n, k) => if (k == NameKind.free && env.scope.kind == .function && env.kindOf n == some .cell) then (n, NameKind.cell) else (n, k)).lookup x = match l.lookup x with
      | some .free => if env.kindOf x = some .cell then some .cell else some .free
      | o => o := by
    intro l
    induction l with
    | nil => rfl
    | cons a r ih =>
      obtain ⟨y, k⟩ := a
      rw [List.map_cons]
      by_cases hxy : x = y
      · subst hxy
        rw [List.lookup_cons (a := x) (b := k), beq_self_eq_true]
        dsimp only
        rw [hk]
        by_cases h1 : env.kindOf x = some .cell
        · rw [h1]; cases k <;> simp
        · have : (env.kindOf x == some NameKind.cell) = false := by simpa using h1
          rw [this]; cases k <;> simp [h1]
      · have hb : (x == y) = false := beq_eq_false_iff_ne.mpr hxy
        rw [List.lookup_cons (b := k), hb]
        dsimp only
        rw [← ih]
        split <;> simp [List.lookup_cons, hb]
  exact this sc.names
end
end Mine
end

section
set_option maxHeartbeats 2000000
open PySem PySem.Calls PyProof.Rows PySem.Spec PySem.Builtin PySem.Builtin.Str PySem.W
namespace Mine

section
variable {prog : Program} {w : World} {X : ObjW} {G : GCtx} {mg mb : Str → Option Value} {ev : Ev} {n : Nat}
variable {A : Around} {E : Value → Shared → Prop} {s s₁ s₂ : Shared} {N W : Addr → Prop} {env : Env} {ε ε' : LEnv} {tgt : Expr}

noncomputable def NewAt (h H : Heap) (b : Addr) : Prop := h.get? b = none ∧ (H.get? b).isSome = true

/-- the environment of a comprehension -/
noncomputable def cEnv (sc : Scope) (env : Env) (C : Addr) : Env := { newEnv sc C env.globals (cellsFrom (C + 1) sc.names (clOf env sc.names [])) env.qual none .none (some env) builtinsNs with scope := relabel sc env }

structure CompIs (sc outer : Scope) (tgt : Expr) : Prop where
  kind : sc.kind = .function
  nodup : (sc.names.map (·.1)).Nodup
  free : ∀ x, (x, NameKind.free) ∈ sc.names → outer.names.lookup x = some .cell
  tgt : ∀ x ∈ tgtNames tgt, sc.names.lookup x = some .local ∨ sc.names.lookup x = some .cell

theorem compOk_is {sc outer : Scope} (h : compOk sc outer tgt = true) : CompIs sc outer tgt := by
  unfold compOk at h
  rw [Bool.and_eq_true, Bool.and_eq_true, Bool.and_eq_true] at h
  refine ⟨by simpa using h.1.1.1, of_decide_eq_true h.1.1.2, fun x hx => ?_, fun x hx => ?_⟩
  · have := List.all_eq_true.mp h.1.2 _ hx
    simpa using this
  · have := List.all_eq_true.mp h.2 _ hx
    simpa using this

theorem CompIs.free' {sc : Scope} (c : CompIs sc env.scope tgt) {x : Str} (h : sc.names.lookup x = some .free) : env.kindOf x = some .cell := c.free x (mem_of_lookup h)

theorem comp_env {sc : Scope} (c : CompIs sc env.scope tgt) (e : EnvAt X N W s.heap s.toks env ε) {H : Heap} (hH : H = pushCells (s.heap.push { cls := .type "dict", data := .dict #[] }) sc.names) :
    EnvAt X (fun b => N b ∨ NewAt s.heap H b) (NewAt s.heap H) H s.toks (cEnv sc env s.heap.objs.size) (compEnv sc ε) ∧ (∀ x ∈ tgtNames tgt, Places (NewAt s.heap H) (cEnv sc env s.heap.objs.size) x) ∧ NewAt s.heap H s.heap.objs.size ∧ ∀ x d, (cEnv sc env s.heap.objs.size).cells.lookup x = some d → NewAt s.heap H d ∨ ∃ y, env.cells.lookup y = some d := by
  have keep : ∀ b o, s.heap.get? b = some o → H.get? b = some o := fun b o q => by rw [hH]; exact pushCells_keeps _ _ b o (Heap.get?_push_of_some _ q)
  have hC : H.get? s.heap.objs.size = some { cls := .type "dict", data := .dict #[] } := by rw [hH]; exact pushCells_keeps _ _ _ _ (Heap.get?_push_size _ rfl)
  have newC : NewAt s.heap H s.heap.objs.size := ⟨none_of_size (Nat.le_refl _), by rw [hC]; rfl⟩
  have ok := cellsFrom_ok sc.names (s.heap.push { cls := .type "dict", data := .dict #[] }) (s.heap.objs.size + 1) [] ⟨fun _ _ hm => (nomatch hm), List.Pairwise.nil⟩ (by rw [Heap.size_push]; exact Nat.le_refl _)
  rw [Heap.size_push, ← hH] at ok
  have own : ∀ x i, cellNo sc.names x = some i → H.IsCell (s.heap.objs.size + 1 + i) none ∧ NewAt s.heap H (s.heap.objs.size + 1 + i) := by
    intro x i hi
    have l1 : (cellsFrom (s.heap.objs.size + 1) sc.names []).lookup x = some (s.heap.objs.size + 1 + i) := by rw [cellsFrom_lookup _ _ _ c.nodup, hi]
    have := (ok.empty x _ (mem_of_lookup l1)).1
    refine ⟨this, none_of_size (by rw [Nat.add_assoc]; exact Nat.le_add_right _ _), ?_⟩
    obtain ⟨o, ho, _⟩ := this
    rw [ho]; rfl
  have look : ∀ x, (cEnv sc env s.heap.objs.size).cells.lookup x = match cellNo sc.names x with | some i => some (s.heap.objs.size + 1 + i) | none => if sc.names.lookup x = some .free then some ((env.cells.lookup x).getD 0) else none := by
    intro x
    show (cellsFrom (s.heap.objs.size + 1) sc.names (clOf env sc.names [])).lookup x = _
    rw [cellsFrom_lookup _ _ _ c.nodup, clOf_lookup _ _ c.nodup]
    rfl
  have cases_of : ∀ x d, (cEnv sc env s.heap.objs.size).cells.lookup x = some d → (∃ i, cellNo sc.names x = some i ∧ d = s.heap.objs.size + 1 + i) ∨ (sc.names.lookup x = some .free ∧ cellNo sc.names x = none ∧ env.cells.lookup x = some d ∧ ∃ v, s.heap.IsCell d v) := by
    intro x d h
    rw [look] at h
    cases q : cellNo sc.names x with
    | some i => rw [q] at h; cases h; exact .inl ⟨i, rfl, rfl⟩
    | none =>
      rw [q] at h
      dsimp only at h
      split at h
      · rename_i hf
        obtain ⟨d', v, hd, hcell⟩ := e.cell x (c.free' hf)
        rw [hd] at h
        cases h
        exact .inr ⟨hf, rfl, hd, v, hcell⟩
      · cases h
  have kindC : ∀ x, (cEnv sc env s.heap.objs.size).kindOf x = match sc.names.lookup x with
      | some .free => if env.kindOf x = some .cell then some .cell else some .free
      | o => o := fun x => relabel_lookup e.kind
  refine ⟨?_, ?_, newC, fun x d h => (cases_of x d h).elim (fun ⟨i, hi, q⟩ => .inl (q ▸ (own x i hi).2)) fun q => .inr ⟨x, q.2.2.1⟩⟩
  · refine ⟨e.tp, fun b h => .inr h, c.kind, e.glo, e.bui, ⟨_, ((Heap.Ns.new s.heap (.type "dict")).keeps (pushCells_keeps _ _)).keeps (h' := H) (by rw [hH]; exact fun b o q => q)⟩, newC, fun x d h => ?_, fun x hk => ?_, fun x y d hx hy => ?_, fun x d h => ?_, fun b h => ?_, fun x p hp => ?_, fun x l h => nomatch h⟩
    · rcases cases_of x d h with ⟨i, hi, rfl⟩ | ⟨_, _, hd, _⟩
      · exact .inr (own x i hi).2
      · exact .inl (e.nC x d hd)
    · rw [kindC] at hk
      cases q : cellNo sc.names x with
      | some i => exact ⟨_, none, by rw [look, q], (own x i q).1⟩
      | none =>
        split at hk
        · rename_i hf
          obtain ⟨d', v, hd, hcell⟩ := e.cell x (c.free' hf)
          exact ⟨d', v, by rw [look, q]; dsimp only; rw [if_pos hf, hd]; rfl, hcell.keeps keep⟩
        · obtain ⟨i, hi⟩ := cellNo_some hk
          rw [hi] at q; cases q
    · rcases cases_of x d hx with ⟨i, hi, e1⟩ | ⟨_, _, hd, v, hcell⟩
      · rcases cases_of y d hy with ⟨j, hj, e2⟩ | ⟨_, _, hd, v, hcell⟩
        · have : i = j := Nat.add_left_cancel (e1.symm.trans e2)
          subst this
          exact cellNo_inj hi hj
        · obtain ⟨o, ho, _⟩ := hcell
          have := (own x i hi).2.1
          rw [← e1, ho] at this; cases this
      · rcases cases_of y d hy with ⟨j, hj, e2⟩ | ⟨_, _, hd', _⟩
        · obtain ⟨o, ho, _⟩ := hcell
          have := (own y j hj).2.1
          rw [← e2, ho] at this; cases this
        · exact e.inj x y d hd hd'
    · rw [kindC]
      rcases cases_of x d h with ⟨i, hi, _⟩ | ⟨hf, _⟩
      · by_cases q : sc.names.lookup x = some .cell
        · rw [q]
        · rw [cellNo_none q c.nodup] at hi; cases hi
      · rw [hf]
        dsimp only
        rw [if_pos (c.free' hf)]
    · rcases h with h | h
      · obtain ⟨o, ho⟩ := Option.isSome_iff_exists.mp (e.nb b h)
        rw [keep b o ho]; rfl
      · exact h.2
    · have : (compEnv sc ε).vars.lookup x = if (sc.names.lookup x == some .free) = true then ε.vars.lookup x else none := lookup_filter (fun y => sc.names.lookup y == some .free) x ε.vars
      rw [this] at hp
      split at hp
      · rename_i hf
        have hf : sc.names.lookup x = some .free := by simpa using hf
        obtain ⟨v, hv, hr⟩ := e.vars x p hp
        have hk := c.free' hf
        refine ⟨v, ?_, hr.tr (fun b o nb q => ⟨fun z => z.elim nb (fun z => nomatch z.1.symm.trans q), keep b o q⟩) (Nat.le_refl _)⟩
        rcases hv with ⟨k, _⟩ | ⟨k, d, hd, hcell⟩
        · rw [hk] at k; cases k
        · refine .inr ⟨by rw [kindC, hf]; dsimp only; rw [if_pos hk], d, ?_, hcell.keeps keep⟩
          rw [look, cellNo_none (by rw [hf]; exact fun z => nomatch z) c.nodup]
          dsimp only
          rw [if_pos hf, hd]; rfl
      · cases hp
  · intro x hx d _ h
    rcases cases_of x d h with ⟨i, hi, rfl⟩ | ⟨hf, _⟩
    · exact (own x i hi).2
    · rcases c.tgt x hx with h | h <;> (rw [hf] at h; cases h)
end
end Mine
end

section
set_option maxHeartbeats 4000000
open PySem PySem.Calls PyProof.Rows PySem.Spec PySem.Builtin PySem.Builtin.Str PySem.W
namespace Mine

section
variable {prog : Program} {w : World} {X : ObjW} {G : GCtx} {mg mb : Str → Option Value} {ev : Ev} {n : Nat}
variable {A : Around} {E : Value → Shared → Prop} {s s₁ s₂ : Shared} {N W : Addr → Prop} {env : Env} {ε ε' : LEnv} {tgt : Expr}

theorem list_loop {elt target iter : PySem.Expr} {ifs : List PySem.Expr} {scope : Scope} {pos : Pos} {it acc : Value} {env : Env} {R : Result → Shared → Prop} (I : Nat → Shared → Prop)
    (turn : ∀ (n : Nat) (s : Shared) (E : Value → Shared → Prop), I n s → wpAny (model prog w) A (pyNext it) (fun r s₁ => match r with
      | none => R (.ok .next) s₁
      | some v => wpAny (model prog w) A (letOwnedTupleGo target it v) (fun _ s₀ => wpAny (model prog w) A (assign target env v) (fun _ s₂ =>
          wpAny (model prog w) A (forIn ifs true fun c r => if r = true then do let ok ← isTrue c env (eval c env); pure (ForInStep.yield ok) else pure (ForInStep.yield r)) (fun ok s₃ => if ok = true then
          wpAny (model prog w) A (eval elt env) (fun x s₄ =>
            wpAny (model prog w) A (call (.builtin "list.append") [acc, x]) (fun _ s₅ => ∃ m, m < n ∧ I m s₅) E s₄) E s₃ else ∃ m, m < n ∧ I m s₃) E s₂)
          E s₀) E s₁) E s)
    (n : Nat) (h : I n s) : codeAny (model prog w) A (.compLoop (.ListComp elt [⟨target, iter, ifs, 0⟩] scope pos) 0 it acc env) R s := by
  refine codeAny_loop rfl I (fun n s hI => ?_) n h
  show wpAny _ A ((compTurn (.ListComp elt [⟨target, iter, ifs, 0⟩] scope pos) 0 it acc env).onRaise (fun x => do noteFrame x env; theTreesLotGoes x)) _ _ s
  refine wpAny_noted ?_
  rw [compTurn_list]
  refine wpAny_bind (wpAny_standAt (wpAny_bind (wpAny_mono (turn n s _ hI) (fun r s₁ h₁ => ?_) fun _ _ h' => h')))
  cases r with
  | none => exact wpAny_pure h₁
  | some v =>
    refine wpAny_bind (wpAny_mono h₁ (fun _ s₀ h₀' => ?_) fun _ _ h' => h')
    refine wpAny_bind (wpAny_mono h₀' (fun _ s₂ h₂ => ?_) fun _ _ h' => h')
    refine wpAny_bind (wpAny_mono h₂ (fun ok s₃ h₃ => ?_) fun _ _ h' => h')
    by_cases hok : ok = true
    · rw [if_pos hok] at h₃ ⊢
      exact wpAny_bind (wpAny_bind (wpAny_mono h₃ (fun x s₄ h₄ => wpAny_bind (wpAny_mono h₄ (fun _ s₅ h₅ => wpAny_pure (wpAny_pure ⟨rfl, h₅⟩)) fun _ _ h' => h')) fun _ _ h' => h'))
    · rw [if_neg hok] at h₃ ⊢
      exact wpAny_bind (wpAny_pure (wpAny_pure ⟨rfl, h₃⟩))

theorem tests_sound (S : Snd prog w X G mg mb ev n) (hR : Room n A) {ifs : List Expr} {b : Bool} {Q : Bool → Shared → Prop} (g : Gnd X G mg mb s.heap) (e : EnvAt X N W s.heap s.toks env ε) (h : compTest ev env.scope ε ifs = some b) (hQ : ∀ s', KS s s' → Q b s') :
    wpAny (model prog w) A (forIn ifs true fun c r => if r = true then do let ok ← isTrue c env (eval c env); pure (ForInStep.yield ok) else pure (ForInStep.yield r)) Q E s := by
  cases ifs with
  | nil => obtain rfl := Option.some.inj h; exact wpAny_tests_nil (hQ s (KS.refl s))
  | cons c r => cases r with
    | nil => exact wpAny_tests_one (wpAny_mono (S.T A E s N W env ε _ _ hR g e h) (fun c s' h' => h'.2 ▸ hQ s' h'.1) fun _ _ q => q)
    | cons => exact no_some h

/-- the accumulator D and the iterator's places move; the rest of what was there stays -/
structure LoopInv (prog : Program) (w : World) (X : ObjW) (N : Addr → Prop) (NW : Addr → Prop) (cenv : Env) (ε : LEnv) (s₀ s₂ : Shared) (wr : List Addr) (D : Addr) (St : Nat → Heap → Prop) (i : Nat) (s' : Shared) : Prop where
  ks : KS s₀ s'
  tk : s₂.toks ≤ s'.toks
  kept : ∀ b o, b ∉ wr → b ≠ D → ¬ NW b → s₂.heap.get? b = some o → s'.heap.get? b = some o
  st : St i s'.heap
  env : EnvAt X (fun b => (N b ∨ b ∈ wr ∨ b = D) ∨ NW b) NW s'.heap s'.toks cenv ε

/-- what a comprehension's block needs to know of its surroundings -/
structure Block (NW : Addr → Prop) (cenv : Env) (s₀ s₂ : Shared) (fp wr : List Addr) (D : Addr) : Prop where
  fpw : ∀ b ∈ fp, ¬ NW b ∧ b ≠ D
  wrN : ∀ b ∈ wr, ¬ NW b ∧ b ≠ D ∧ s₀.heap.get? b = none
  D0 : s₀.heap.get? D = none ∧ ¬ NW D ∧ s₂.heap.get? D = none
  new : ∀ b, NW b → s₂.heap.get? b = none ∧ s₀.heap.get? b = none
  cells : ∀ x c, cenv.cells.lookup x = some c → c ∉ wr ∧ c ≠ D

/-- one step that touches wr only -/
theorem LoopInv.step {NW : Addr → Prop} {cenv : Env} {wr fp : List Addr} {D : Addr} {St St' : Nat → Heap → Prop} {i j : Nat} {s' : Shared} {h : Heap} {tk : Nat} (B : Block NW cenv s s₂ fp wr D) (I : LoopInv prog w X N NW cenv ε s s₂ wr D St i s')
    (hN : ∀ b, N b → (s.heap.get? b).isSome = true) (ht : s'.toks ≤ tk) (hk : ∀ b o, b ∉ wr → s'.heap.get? b = some o → h.get? b = some o) (hst : St' j h) (al : ∀ b ∈ wr, (h.get? b).isSome = true) : LoopInv prog w X N NW cenv ε s s₂ wr D St' j { s' with heap := h, toks := tk } := by
  obtain ⟨h', tk', rfl, hs, ht'⟩ := I.ks
  have notwr : ∀ b o, s.heap.get? b = some o → b ∉ wr := fun b o q z => by
    have := (B.wrN b z).2.2
    rw [q] at this; cases this
  refine ⟨⟨h, tk, rfl, fun b o q => hk b o (notwr b o q) (hs b o q), Nat.le_trans ht' ht⟩, Nat.le_trans I.tk ht, fun b o n1 n2 n3 q => hk b o n1 (I.kept b o n1 n2 n3 q), hst, ?_⟩
  refine I.env.shift ht (fun b o z q => hk b o (fun y => (B.wrN b y).1 z) q) (fun x c o hc q => hk c o (B.cells x c hc).1 q) (fun x c hc => I.env.nC x c hc) (fun b o nb q => ⟨nb, hk b o (fun y => nb (.inl (.inr (.inl y)))) q⟩) I.env.wn fun b z => ?_
  by_cases hb : b ∈ wr
  · exact al b hb
  · obtain ⟨o, ho⟩ := Option.isSome_iff_exists.mp (I.env.nb b z)
    rw [hk b o hb ho]; rfl

theorem LoopInv.made {NW : Addr → Prop} {cenv : Env} {wr fp : List Addr} {D : Addr} {P Md : Nat → Value → Heap → Prop} {St : Nat → Heap → Prop} {n i : Nat} {s' s'' : Shared} {J : Addr} (K : KTurns prog w A tgt J fp wr n P Md St) (I : LoopInv prog w X N NW cenv ε s s₂ wr D St i s') (k : KS s' s'') : LoopInv prog w X N NW cenv ε s s₂ wr D St i s'' :=
  ⟨I.ks.trans k, Nat.le_trans I.tk k.toks, fun b o a1 a2 a3 q => k.sub b o (I.kept b o a1 a2 a3 q), K.frame i _ _ I.st fun b _ o q => k.sub b o q, I.env.ks k⟩

theorem LoopInv.stored {NW : Addr → Prop} {cenv : Env} {wr fp : List Addr} {D : Addr} {P Md : Nat → Value → Heap → Prop} {St : Nat → Heap → Prop} {n i : Nat} {s' s'' : Shared} {J : Addr} (B : Block NW cenv s s₂ fp wr D) (K : KTurns prog w A tgt J fp wr n P Md St) (I : LoopInv prog w X N NW cenv ε s s₂ wr D St i s')
    (k : Kept X (fun b => (N b ∨ b ∈ wr ∨ b = D) ∨ NW b) NW s' cenv ε' s'') : LoopInv prog w X N NW cenv ε' s s₂ wr D St i s'' := by
  obtain ⟨h, tk, rfl, ht, hk, ha, e⟩ := k
  obtain ⟨h', tk', rfl, hs, ht'⟩ := I.ks
  refine ⟨⟨h, tk, rfl, fun b o q => hk b o (fun z => ?_) (hs b o q), Nat.le_trans ht' ht⟩, Nat.le_trans I.tk ht, fun b o a1 a2 a3 q => hk b o a3 (I.kept b o a1 a2 a3 q), K.frame i _ _ I.st fun b hb o q => hk b o (B.fpw b hb).1 q, e⟩
  have := (B.new b z).2
  rw [q] at this; cases this

/-- the accumulator alone has changed -/
theorem LoopInv.grown {NW : Addr → Prop} {cenv : Env} {wr fp : List Addr} {D : Addr} {P Md : Nat → Value → Heap → Prop} {St : Nat → Heap → Prop} {n i : Nat} {s' : Shared} {J : Addr} {h : Heap} {tk : Nat} (B : Block NW cenv s s₂ fp wr D) (K : KTurns prog w A tgt J fp wr n P Md St) (I : LoopInv prog w X N NW cenv ε s s₂ wr D St i s')
    (ht : s'.toks ≤ tk) (hk : ∀ b o, b ≠ D → s'.heap.get? b = some o → h.get? b = some o) (al : (h.get? D).isSome = true) : LoopInv prog w X N NW cenv ε s s₂ wr D St i { s' with heap := h, toks := tk } := by
  obtain ⟨h', tk', rfl, hs, ht'⟩ := I.ks
  refine ⟨⟨h, tk, rfl, fun b o q => hk b o (fun z => ?_) (hs b o q), Nat.le_trans ht' ht⟩, Nat.le_trans I.tk ht, fun b o n1 n2 n3 q => hk b o n2 (I.kept b o n1 n2 n3 q), K.frame i _ _ I.st fun b hb o q => hk b o (B.fpw b hb).2 q, ?_⟩
  · have := B.D0.1
    rw [z] at q
    rw [q] at this; cases this
  refine I.env.shift ht (fun b o z q => hk b o (fun y => B.D0.2.1 (y ▸ z)) q) (fun x c o hc q => hk c o (B.cells x c hc).2 q) (fun x c hc => I.env.nC x c hc) (fun b o nb q => ⟨nb, hk b o (fun y => nb (.inl (.inr (.inr y)))) q⟩) I.env.wn fun b z => ?_
  by_cases hb : b = D
  · rw [hb]; exact al
  · obtain ⟨o, ho⟩ := Option.isSome_iff_exists.mp (I.env.nb b z)
    rw [hk b o hb ho]; rfl
end
end Mine
end

section
set_option maxHeartbeats 4000000
open PySem PySem.Calls PyProof.Rows PySem.Spec PySem.Builtin PySem.Builtin.Str PySem.W
namespace Mine

section
variable {prog : Program} {w : World} {X : ObjW} {G : GCtx} {mg mb : Str → Option Value} {ev : Ev} {n : Nat}
variable {A : Around} {E : Value → Shared → Prop} {s s₁ s₂ : Shared} {N W : Addr → Prop} {env : Env} {ε ε' : LEnv} {tgt : Expr}

theorem iter_notBad (S : Snd prog w X G mg mb ev n) {sc : Scope} {x : Expr} {ps : List PV} (h : iterV G ev sc ε tgt x = some ps) : isBad x = false := by
  unfold iterV at h
  cases hi : iterName G sc x with
  | some ka =>
    obtain ⟨g, px, pos, rfl, _⟩ := iterName_some hi
    rfl
  | none =>
    rw [hi] at h
    obtain ⟨p, hp, _⟩ := Option.bind_eq_some_iff.mp h
    exact notBad S hp
theorem fold_pure {x : Expr} (h : isBad x = false) : ∀ v, foldedSetIterable x env v = pure v := by
  intro v
  cases x <;> first | rfl | exact no_tf h

/-- where a block of its own begins: the accumulator, the namespace -/
theorem block_of {sc : Scope} {it : Value} {ps : List PV} {I : Addr} {fp wr : List Addr} {St : Nat → Heap → Prop} {od : Obj} (hod : od.isFreed = false) (c : CompIs sc env.scope tgt) (e : EnvAt X N W s.heap s.toks env ε) (k : KS s s₂) (hst : St 0 s₂.heap) (hfp : ∀ b ∈ fp, ¬ N b ∧ (s₂.heap.get? b).isSome = true) (hwr : ∀ b ∈ wr, s.heap.get? b = none)
    (al : ∀ i h, St i h → ∀ b ∈ wr, (h.get? b).isSome = true) (fr : ∀ i h h', St i h → (∀ b ∈ fp, ∀ o, h.get? b = some o → h'.get? b = some o) → St i h')
    {H₃ H : Heap} (h3 : H₃ = s₂.heap.push od) (hH : H = pushCells (H₃.push { cls := .type "dict", data := .dict #[] }) sc.names) :
    Block (NewAt H₃ H) (cEnv sc env H₃.objs.size) s s₂ fp wr s₂.heap.objs.size ∧ LoopInv prog w X N (NewAt H₃ H) (cEnv sc env H₃.objs.size) (compEnv sc ε) s s₂ wr s₂.heap.objs.size St 0 { s₂ with heap := H } ∧
      (∀ x ∈ tgtNames tgt, Places (NewAt H₃ H) (cEnv sc env H₃.objs.size) x) ∧ NewAt H₃ H H₃.objs.size ∧ H.get? s₂.heap.objs.size = some od := by
  have hD : s₂.heap.get? s₂.heap.objs.size = none := none_of_size (Nat.le_refl _)
  have hD3 : H₃.get? s₂.heap.objs.size = some od := by rw [h3]; exact Heap.get?_push_size _ hod
  have k3 : KS s { s₂ with heap := H₃ } := k.trans (by rw [h3]; exact KS.push _ (Nat.le_refl _))
  have wr2 := al 0 _ hst
  have up3 : ∀ b o, s₂.heap.get? b = some o → H₃.get? b = some o := fun b o q => by rw [h3]; exact Heap.get?_push_of_some _ q
  have isome3 : ∀ b, (s₂.heap.get? b).isSome = true → (H₃.get? b).isSome = true := fun b q => by
    obtain ⟨o, ho⟩ := Option.isSome_iff_exists.mp q
    rw [up3 b o ho]; rfl
  have e3 : EnvAt X (fun b => N b ∨ b ∈ wr ∨ b = s₂.heap.objs.size) W H₃ s₂.toks env ε := by
    refine e.shift k.toks (fun b o _ q => k3.sub b o q) (fun x d o _ q => k3.sub d o q) (fun x d hd => .inl (e.nC x d hd)) (fun b o nb q => ⟨fun z => ?_, k3.sub b o q⟩) (fun b z => .inl (e.wn b z)) fun b z => ?_
    · rcases z with z | z | z
      · exact nb z
      · rw [hwr b z] at q; cases q
      · rw [z, none_of_ks k hD] at q; cases q
    · rcases z with z | z | z
      · obtain ⟨o, ho⟩ := Option.isSome_iff_exists.mp (e.nb b z)
        have := k3.sub b o ho
        show (H₃.get? b).isSome = true
        rw [this]; rfl
      · exact isome3 b (wr2 b z)
      · rw [z, hD3]; rfl
  have up : ∀ b o, H₃.get? b = some o → H.get? b = some o := fun b o q => by rw [hH]; exact pushCells_keeps _ _ b o (Heap.get?_push_of_some _ q)
  obtain ⟨c1, c2, c3, c4⟩ := comp_env (s := { s₂ with heap := H₃ }) c e3 hH
  have kH : KS s { s₂ with heap := H } := k3.trans ⟨H, s₂.toks, rfl, up, Nat.le_refl _⟩
  have notnew : ∀ b, (H₃.get? b).isSome = true → ¬ NewAt H₃ H b := fun b q z => by rw [z.1] at q; cases q
  refine ⟨⟨fun b hb => ⟨notnew b (isome3 b (hfp b hb).2), fun z => ?_⟩, fun b hb => ⟨notnew b (isome3 b (wr2 b hb)), fun z => ?_, hwr b hb⟩, ⟨none_of_ks k hD, notnew _ (by rw [hD3]; rfl), hD⟩, fun b z => ?_, fun x d hd => ?_⟩, ⟨kH, Nat.le_refl _, fun b o _ _ _ q => up b o (up3 b o q), fr 0 _ _ hst fun b _ o q => up b o (up3 b o q), c1⟩, c2, c3, up _ _ hD3⟩
  · have := (hfp b hb).2
    rw [z, hD] at this; cases this
  · have := wr2 b hb
    rw [z, hD] at this; cases this
  · have z2 : s₂.heap.get? b = none := by
      cases q : s₂.heap.get? b with
      | none => rfl
      | some o => have := z.1; rw [up3 b o q] at this; cases this
    exact ⟨z2, none_of_ks k z2⟩
  · rcases c4 x d hd with q | ⟨y, hy⟩
    · refine ⟨fun z => notnew d (isome3 d (wr2 d z)) q, fun z => notnew d ?_ q⟩
      rw [z, hD3]; rfl
    · have hs := e.nb d (e.nC y d hy)
      refine ⟨fun z => ?_, fun z => ?_⟩
      · rw [hwr d z] at hs; cases hs
      · rw [z, none_of_ks k hD] at hs; cases hs

theorem listComp_it (XO : XOk prog w X) (S : Snd prog w X G mg mb ev n) (hR : Room n A) {elt iter : Expr} {ifs : List Expr} {sc : Scope} {pos cpos : Pos} {ps result : List PV} {use : Option (Value → Sem Unit)} {Q : Value → Shared → Prop} (g : Gnd X G mg mb s.heap) (e : EnvAt X N W s.heap s.toks env ε)
    (hc : compOk sc env.scope tgt = true) (hbad : isBad iter = false) (hit : ∀ (Q : Value → Shared → Prop), (∀ s₂ it, KS s s₂ → Turning prog w X N tgt it ps s s₂ → Q it s₂) → wpAny (model prog w) A (eval iter env) (fun v s₁ => wpAny (model prog w) A (pyIter v) Q E s₁) E s) (hlen : ps.length ≤ lim) (h : compE ev (relab sc env.scope) (compEnv sc ε) tgt ifs elt ps = some result)
    (hfin : ∀ D C m s', KS s s' → s.heap.get? C = none → s'.heap.Ns C m → RelV X (fun b => N b ∨ b = C) s'.heap s'.toks (.lst result) (.ref D) → compPost (model prog w) A E use Q (.ref D) C (.ok .next) s') :
    wpAny (model prog w) A (comprehension (.ListComp elt [⟨tgt, iter, ifs, 0⟩] sc pos) sc env cpos (newList []) false (eval iter env) use) Q E s := by
  have c := compOk_is hc
  have hh := hR.1
  refine wpAny_comprehension_free rfl (fold_pure hbad) (closureFor_pure fun x hx => ?_) c.kind (fun x hx hl => lookup_of_nodup c.nodup (by rw [← hl]; exact hx)) (hit _ fun s₂ it k₂ T => ?_)
  · obtain ⟨d, _, hd, _⟩ := e.cell x (c.free x hx)
    exact ⟨d, hd⟩
  obtain ⟨I, fp, wr, P, Md, St, rfl, KK, hst, hfp, hwr, al, self, items⟩ := T
  have K := KK A hh
  refine wpAny_newObj_type (newEnv_comp ?_)
  dsimp only
  generalize h3 : s₂.heap.push { cls := .type "list", data := .seq ([] : List Value).toArray } = H₃
  generalize hH : pushCells (H₃.push { cls := .type "dict", data := .dict #[] }) sc.names = H
  obtain ⟨B, I₀, pl, newC, hD0⟩ := block_of (prog := prog) (w := w) (it := .ref I) (ps := ps) (I := I) rfl c e k₂ hst hfp hwr al K.frame h3.symm hH.symm
  show codeAny (model prog w) A (.compStart _ 0 (.ref I) (.ref s₂.heap.objs.size) (cEnv sc env H₃.objs.size)) (compPost (model prog w) A E use Q (.ref s₂.heap.objs.size) H₃.objs.size) { s₂ with heap := H }
  generalize hDD : s₂.heap.objs.size = D at *
  generalize hCC : H₃.objs.size = C at *
  generalize hN' : (fun b => (N b ∨ b ∈ wr ∨ b = D) ∨ NewAt H₃ H b) = N' at *
  have inN : ∀ b, ¬ N' b → ¬ N b ∧ b ∉ wr ∧ b ≠ D ∧ ¬ NewAt H₃ H b := fun b z => by
    subst hN'
    exact ⟨fun q => z (.inl (.inl q)), fun q => z (.inl (.inr (.inl q))), fun q => z (.inl (.inr (.inr q))), fun q => z (.inr q)⟩
  have hnb := e.nb
  have loop : codeAny (model prog w) A (.compLoop (.ListComp elt [⟨tgt, iter, ifs, 0⟩] sc pos) 0 (.ref I) (.ref D) (cEnv sc env C)) (compPost (model prog w) A E use Q (.ref D) C) { s₂ with heap := H } := by
    refine list_loop (fun m s' => ∃ (i : Nat) (qs rest : List PV) (vs : List Value) (nD : Nat), i ≤ ps.length ∧ m = ps.length + 1 - i ∧ LoopInv prog w X N (NewAt H₃ H) (cEnv sc env C) (compEnv sc ε) s s₂ wr D St i s' ∧
      s'.heap.get? D = some (seqO "list" vs nD) ∧ RelVs X N' s'.heap s'.toks qs vs ∧ qs.length ≤ i ∧ compE ev (relab sc env.scope) (compEnv sc ε) tgt ifs elt (ps.drop i) = some rest ∧ result = qs ++ rest) ?_ (ps.length + 1) ⟨0, [], result, [], 0, Nat.zero_le _, rfl, I₀, hD0, .nil, Nat.le_refl _, by rw [List.drop_zero]; exact h, rfl⟩
    rintro m s' E' ⟨i, qs, rest, vs, nD, hi', rfl, I₁, hD, hqs, hql, hrest, hres⟩
    refine wp_toks_here ?_
    by_cases hlt : i < ps.length
    · refine K.item i s' _ _ hlt I₁.st fun v h₁ tk₁ hMd hk₁ ht₁ => ?_
      have ht₁ : s'.toks ≤ tk₁ := ht₁
      dsimp only
      refine K.go i v _ _ _ hMd fun h₂ hP hst₂ hk₂ => ?_
      have up₂ : ∀ b o, b ∉ wr → s'.heap.get? b = some o → h₂.get? b = some o := fun b o nb q => hk₂ b o nb (hk₁ b o nb q)
      have I₂ := LoopInv.step (St' := St) (j := i + 1) B I₁ hnb ht₁ up₂ hst₂ (al _ _ hst₂)
      have hdrop : ps.drop i = ps[i] :: ps.drop (i + 1) := List.drop_eq_getElem_cons hlt
      rw [hdrop] at hrest
      simp only [compE, Option.bind_eq_some_iff] at hrest
      obtain ⟨ε₁, hbind, b, htest, hrest⟩ := hrest
      have item : ItemIs X N' h₂ tk₁ tgt ps[i] v := items i v h₂ tk₁ ps[i] N' hP (List.getElem?_eq_getElem hlt) (Nat.le_trans I₁.tk ht₁) (fun b q z => by
        subst hN'
        rcases z with (z | z | z) | z
        · exact .inl z
        · exact .inr z
        · rw [z, B.D0.2.2] at q; cases q
        · rw [(B.new b z).1] at q; cases q) fun b o z q => I₂.kept b o (inN b z).2.1 (inN b z).2.2.1 (inN b z).2.2.2 q
      have hqs₂ : RelVs X N' h₂ tk₁ qs vs := hqs.tr (fun b o z q => ⟨z, up₂ b o (inN b z).2.1 q⟩) ht₁
      have hD₂ : h₂.get? D = some (seqO "list" vs nD) := up₂ D _ (fun z => (B.wrN D z).2.1 rfl) hD
      have e₂ := I₂.env
      rw [hN'] at e₂
      refine bindT_sound (s := { s' with heap := h₂, toks := tk₁ }) hh e₂ pl item hbind fun s₃ k₃ => ?_
      have hqs₃ : RelVs X N' s₃.heap s₃.toks qs vs := by
        obtain ⟨h', tk', rfl, ht, hk, ha, e⟩ := k₃
        exact hqs₂.tr (fun b o z q => ⟨z, hk b o (inN b z).2.2.2 q⟩) ht
      have hD₃ : s₃.heap.get? D = some (seqO "list" vs nD) := by
        obtain ⟨h', tk', rfl, ht, hk, ha, e⟩ := k₃
        exact hk D _ B.D0.2.1 hD₂
      have I₃ := LoopInv.stored (J := I) (fp := fp) (P := P) (Md := Md) (tgt := tgt) B K I₂ (by rw [hN']; exact k₃)
      obtain ⟨o1, o2⟩ := bindT_others hbind
      have weak : ∀ {h : Heap} {tk : Nat}, EnvAt X N' (NewAt H₃ H) h tk (cEnv sc env C) ε₁ → EnvAt X N' (NewAt H₃ H) h tk (cEnv sc env C) (compEnv sc ε) := fun e => e.weaken (fun x p q => by
        rw [o1 x fun z => ?_]
        · exact q
        · have : (compEnv sc ε).vars.lookup x = if (sc.names.lookup x == some .free) = true then ε.vars.lookup x else none := lookup_filter (fun y => sc.names.lookup y == some .free) x ε.vars
          rw [this] at q
          rcases c.tgt x z with y | y <;> (rw [y] at q; simp at q)) rfl
      have e₃ := I₃.env
      rw [hN'] at e₃
      refine tests_sound S hR (g.ks XO I₃.ks) e₃ htest fun s₄ k₄ => ?_
      have I₄ := LoopInv.made (fp := fp) K I₃ k₄
      have e₄ := I₄.env
      rw [hN'] at e₄
      by_cases hb : b = true
      · rw [if_pos hb] at hrest ⊢
        simp only [Option.bind_eq_some_iff, Option.map_eq_some_iff] at hrest
        obtain ⟨q, hq, rest', hrest', rfl⟩ := hrest
        refine wpAny_mono (S.E A E' s₄ N' (NewAt H₃ H) _ ε₁ elt q hR (g.ks XO I₄.ks) e₄ hq) (fun x s₅ h₅ => ?_) fun _ _ q => q
        obtain ⟨k₅, r₅⟩ := h₅
        have I₅ := LoopInv.made (fp := fp) K I₄ k₅
        have hD₅ : s₅.heap.get? D = some (seqO "list" vs nD) := (k₄.trans k₅).sub D _ hD₃
        have hlv := hqs.length
        have el : lim = 100000 := rfl
        refine append_at (its := vs.toArray) (n := nD) hD₅ (fun h₆ hs₆ hD₆ => ?_) (by rw [List.size_toArray, sizeLine_eq]; omega)
        have up₆ : ∀ b o, b ≠ D → s₅.heap.get? b = some o → h₆.get? b = some o := fun b o nb q => hs₆.extBut b o nb q
        have I₆ := LoopInv.grown (h := h₆) (tk := s₅.toks) B K I₅ (Nat.le_refl _) up₆ (by rw [hD₆]; rfl)
        refine ⟨ps.length + 1 - (i + 1), by omega, i + 1, qs ++ [q], rest', vs ++ [x], nD + 1, hlt, rfl, ⟨I₆.ks, I₆.tk, I₆.kept, I₆.st, ?_⟩, ?_, ?_, ?_, hrest', by rw [hres]; simp⟩
        · have := I₆.env
          rw [hN'] at this ⊢
          exact weak this
        · rw [hD₆]; simp
        · have a1 := (hqs₃.ks (k₄.trans k₅)).snoc r₅
          exact a1.tr (fun b o z q => ⟨z, up₆ b o (inN b z).2.2.1 q⟩) (Nat.le_refl _)
        · simp; omega
      · rw [if_neg hb] at hrest ⊢
        refine ⟨ps.length + 1 - (i + 1), by omega, i + 1, qs, rest, vs, nD, hlt, rfl, ⟨I₄.ks, I₄.tk, I₄.kept, I₄.st, ?_⟩, k₄.sub D _ hD₃, hqs₃.ks k₄, by omega, hrest, hres⟩
        rw [hN']
        exact weak e₄
    · have hin : i = ps.length := by omega
      subst hin
      rw [List.drop_length] at hrest
      cases hrest
      refine K.done s' _ _ I₁.st fun h₁ tk₁ hk₁ ht₁ => ?_
      have ht₁ : s'.toks ≤ tk₁ := ht₁
      dsimp only
      obtain ⟨m, hns⟩ := I₁.env.ns
      have hCwr : C ∉ wr := fun z => (B.wrN C z).1 newC
      have hDwr : D ∉ wr := fun z => (B.wrN D z).2.1 rfl
      obtain ⟨h', tk', es, hs, ht'⟩ := I₁.ks
      have ksf : KS s { s' with heap := h₁, toks := tk₁ } := by
        subst es
        exact ⟨h₁, tk₁, rfl, fun b o q => hk₁ b o (fun z => by rw [hwr b z] at q; cases q) (hs b o q), Nat.le_trans ht' ht₁⟩
      have hlv := hqs.length
      have el : lim = 100000 := rfl
      have eb : big = 1000000 := rfl
      refine hfin D C m _ ksf (B.new C newC).2 (hns.at' fun o q => hk₁ C o hCwr q) ?_
      rw [hres, List.append_nil]
      refine .lst _ D vs nD ?_ (hk₁ D _ hDwr hD) (by omega) (hqs.tr (fun b o z q => ⟨fun y => ?_, hk₁ b o (inN b z).2.1 q⟩) ht₁)
      · rintro (z | z)
        · have := hnb D z; rw [B.D0.1] at this; cases this
        · exact B.D0.2.1 (z ▸ newC)
      · rcases y with y | y
        · exact (inN b z).1 y
        · exact (inN b z).2.2.2 (y ▸ newC)
  exact codeAny_compStart_list loop (self A _ 0 _ _ hh I₀.st loop)

theorem listComp_gen (XO : XOk prog w X) (S : Snd prog w X G mg mb ev n) (hR : Room n A) {elt iter : Expr} {ifs : List Expr} {sc : Scope} {pos cpos : Pos} {ps result : List PV} {use : Option (Value → Sem Unit)} {Q : Value → Shared → Prop} (g : Gnd X G mg mb s.heap) (e : EnvAt X N W s.heap s.toks env ε)
    (hc : compOk sc env.scope tgt = true) (hi : iterV G ev env.scope ε tgt iter = some ps) (hlen : ps.length ≤ lim) (h : compE ev (relab sc env.scope) (compEnv sc ε) tgt ifs elt ps = some result)
    (hfin : ∀ D C m s', KS s s' → s.heap.get? C = none → s'.heap.Ns C m → RelV X (fun b => N b ∨ b = C) s'.heap s'.toks (.lst result) (.ref D) → compPost (model prog w) A E use Q (.ref D) C (.ok .next) s') :
    wpAny (model prog w) A (comprehension (.ListComp elt [⟨tgt, iter, ifs, 0⟩] sc pos) sc env cpos (newList []) false (eval iter env) use) Q E s :=
  listComp_it XO S hR g e hc (iter_notBad S hi) (fun Q hQ => iter_sound XO S hR g e hi hQ) hlen h hfin

theorem listComp_sound (XO : XOk prog w X) (S : Snd prog w X G mg mb ev n) (hR : Room n A) {elt iter : Expr} {ifs : List Expr} {sc : Scope} {pos : Pos} {p : PV} (g : Gnd X G mg mb s.heap) (e : EnvAt X N W s.heap s.toks env ε)
    (h : stepE G ev env.scope ε (.ListComp elt [⟨tgt, iter, ifs, 0⟩] sc pos) = some p) : wpAny (model prog w) A (eval (.ListComp elt [⟨tgt, iter, ifs, 0⟩] sc pos) env) (Res X N s p) E s := by
  have h : listCompV G ev env.scope ε elt tgt iter ifs sc = some p := h
  obtain ⟨hc, h⟩ := if_some2 h
  obtain ⟨ps, hi, h⟩ := Option.bind_eq_some_iff.mp h
  obtain ⟨hl, h⟩ := if_some2 h
  obtain ⟨qs, hq, rfl⟩ := Option.map_eq_some_iff.mp h
  rw [eval_ListComp]
  refine listComp_gen (use := none) XO S hR g e hc hi (of_decide_eq_true hl) hq fun D C m s' k hC hns hr => ?_
  refine ⟨m, hns, fun h' hs' => ⟨?_, hr.tr (fun b o z q => ⟨fun y => z (.inl y), hs'.extBut b o (fun y => z (.inr y)) q⟩) (Nat.le_refl _)⟩⟩
  obtain ⟨h₁, tk, rfl, hs, ht⟩ := k
  exact ⟨h', tk, rfl, fun b o q => hs'.extBut b o (fun z => by rw [z, hC] at q; cases q) (hs b o q), ht⟩

theorem listComp_use (XO : XOk prog w X) (S : Snd prog w X G mg mb ev n) (hR : Room n A) {elt iter : Expr} {ifs : List Expr} {sc : Scope} {pos : Pos} {p : PV} {u : Value → Sem Unit} {Q : Unit → Shared → Prop} (g : Gnd X G mg mb s.heap) (e : EnvAt X N W s.heap s.toks env ε)
    (h : stepE G ev env.scope ε (.ListComp elt [⟨tgt, iter, ifs, 0⟩] sc pos) = some p)
    (hu : ∀ v s₁ C, KS s s₁ → s.heap.get? C = none → (s₁.heap.get? C).isSome = true → RelV X (fun b => N b ∨ b = C) s₁.heap s₁.toks p v → wpAny (model prog w) A (u v) (fun _ s₂ => (∀ o, s₁.heap.get? C = some o → s₂.heap.get? C = some o) ∧ ∀ h', Heap.SameBut C s₂.heap h' → Q () { s₂ with heap := h' }) E s₁) :
    wpAny (model prog w) A (evalThenUse (.ListComp elt [⟨tgt, iter, ifs, 0⟩] sc pos) env u) Q E s := by
  have h : listCompV G ev env.scope ε elt tgt iter ifs sc = some p := h
  obtain ⟨hc, h⟩ := if_some2 h
  obtain ⟨ps, hi, h⟩ := Option.bind_eq_some_iff.mp h
  obtain ⟨hl, h⟩ := if_some2 h
  obtain ⟨qs, hq, rfl⟩ := Option.map_eq_some_iff.mp h
  show wpAny _ _ (comprehension (.ListComp elt [⟨tgt, iter, ifs, 0⟩] sc pos) sc env (firstIterPos [⟨tgt, iter, ifs, 0⟩] pos) (newList []) false (eval iter env) (some u) >>= fun _ => pure ()) _ _ _
  refine wpAny_bind (listComp_gen (use := some u) XO S hR g e hc hi (of_decide_eq_true hl) hq fun D C m s' k hC hns hr => ?_)
  refine wpAny_mono (hu (.ref D) s' C k hC ?_ hr) (fun _ s₂ h₂ => ⟨m, hns.at' fun o q => h₂.1 o q, fun h' hs' => ?_⟩) fun _ _ q => q
  · obtain ⟨o, _, _, ho, _⟩ := hns
    rw [ho]; rfl
  · exact wpAny_pure (h₂.2 h' hs')
end
end Mine
end

section
set_option maxHeartbeats 4000000
open PySem PySem.Calls PyProof.Rows PySem.Spec PySem.Builtin PySem.Builtin.Str PySem.W
namespace Mine

section
variable {prog : Program} {w : World} {X : ObjW} {G : GCtx} {mg mb : Str → Option Value} {ev : Ev} {n : Nat}
variable {A : Around} {E : Value → Shared → Prop} {s s₁ s₂ : Shared} {N W : Addr → Prop} {env : Env} {ε ε' : LEnv} {tgt : Expr}

theorem EnvAt.congr {h : Heap} {tk : Nat} (e : EnvAt X N W h tk env ε') (hv : ∀ x, ε.vars.lookup x = ε'.vars.lookup x) (ho : ε.own = ε'.own) : EnvAt X N W h tk env ε where
  tp := e.tp
  wn := e.wn
  kind := e.kind
  glo := e.glo
  bui := e.bui
  ns := e.ns
  nL := e.nL
  nC := e.nC
  cell := e.cell
  inj := e.inj
  ck := e.ck
  nb := e.nb
  vars := fun x p q => e.vars x p (by rw [← hv x]; exact q)
  own := fun x l q => e.own x l (by rw [← ho]; exact q)

theorem Kept.congr {s' : Shared} (k : Kept X N W s env ε' s') (hv : ∀ x, ε.vars.lookup x = ε'.vars.lookup x) (ho : ε.own = ε'.own) : Kept X N W s env ε s' := by
  obtain ⟨h', tk, rfl, ht, hk, ha, e⟩ := k
  exact ⟨h', tk, rfl, ht, hk, ha, e.congr hv ho⟩

noncomputable def ownEnv (ε : LEnv) (x : Str) (l : List PV) : LEnv := { vars := ε.vars.filter (fun (y, _) => !(y == x)), own := some (x, l) }

theorem store_own {x : Str} {a : Addr} {vs : List Value} {nD : Nat} {l : List PV} {Q : Unit → Shared → Prop} (e : EnvAt X N W s.heap s.toks env ε) (hk : env.kindOf x = some .local) (hd : (x == ("__debug__" : Str)) = false) (ho : s.heap.get? a = some (seqO "list" vs nD)) (hW : W a)
    (hl : l.length ≤ big) (hr : RelVs X N s.heap s.toks l vs) (hQ : ∀ s', Kept X N W s env (ownEnv ε x l) s' → Q () s') : wpAny (model prog w) A (storeName env x (.ref a)) Q E s := by
  obtain ⟨m, hn⟩ := e.ns
  refine wpAny_storeName_local hk hn (fun h' hn' hs' => hQ _ ?_) (by rw [e.kind]; rfl)
  have hne : ∀ b o, b ≠ env.locals → s.heap.get? b = some o → h'.get? b = some o := fun b o hb e => hs'.extBut b o hb e
  have alive : ∀ b, (s.heap.get? b).isSome = true → (h'.get? b).isSome = true := fun b hb => by
    by_cases z : b = env.locals
    · subst z; obtain ⟨o, _, _, ho, _⟩ := hn'; rw [ho]; rfl
    · obtain ⟨o, ho⟩ := Option.isSome_iff_exists.mp hb
      rw [hne b o z ho]; rfl
  have hk' : ∀ b o, ¬ N b → s.heap.get? b = some o → ¬ N b ∧ h'.get? b = some o := fun b o nb q => ⟨nb, hne b o (fun z => nb (z ▸ e.wn _ e.nL)) q⟩
  refine ⟨h', _, rfl, Nat.le_succ _, fun b o n q => hne b o (fun z => n (z ▸ e.nL)) q, alive, ?_⟩
  refine ⟨Nat.lt_succ_of_lt e.tp, e.wn, e.kind, e.glo, e.bui, ⟨_, hn'⟩, e.nL, e.nC, fun y ky => ?_, e.inj, e.ck, fun b hb => alive b (e.nb b hb), fun y q hq => ?_, fun y l' hl' => ?_⟩
  · obtain ⟨c, u, h1, h2⟩ := e.cell y ky
    exact ⟨c, u, h1, h2.sameBut hs' (isCell_ne hn h2)⟩
  · have : (ownEnv ε x l).vars.lookup y = if (!(y == x)) = true then ε.vars.lookup y else none := lookup_filter (fun z => !(z == x)) y ε.vars
    rw [this] at hq
    split at hq
    · rename_i hyx
      have hyx : y ≠ x := by simpa using hyx
      obtain ⟨u, h1, h2⟩ := e.vars y q hq
      refine ⟨u, ?_, h2.tr hk' (Nat.le_succ _)⟩
      rcases h1 with ⟨k, m', hn'', z⟩ | ⟨k, c, hc, z⟩
      · refine .inl ⟨k, _, hn', ?_⟩
        rw [if_neg hyx]
        have : m = m' := by
          obtain ⟨o, es, ep, ho, hd, _, hm⟩ := hn
          obtain ⟨o', es', ep', ho', hd', _, hm'⟩ := hn''
          rw [ho] at ho'; cases ho'; rw [hd] at hd'; cases hd'
          funext z; rw [← hm z, ← hm' z]
        rw [this]; exact z
      · exact .inr ⟨k, c, hc, z.sameBut hs' (isCell_ne hn z)⟩
    · cases hq
  · cases hl'
    exact ⟨hk, hd, a, nD, vs, .inl ⟨hk, _, hn', by simp⟩, hW, hne a _ (list_ne_ns hn ho) ho, hl, hr.tr hk' (Nat.le_succ _)⟩

theorem putOwn_some {sc : Scope} {x : Str} {l : List PV} (h : putOwn sc ε x l = some ε') : ε' = ownEnv ε x l ∧ sc.names.lookup x = some .local ∧ (x == ("__debug__" : Str)) = false ∧ ε.own = none := by
  obtain ⟨c, rfl⟩ := if_some h
  rw [Bool.and_eq_true, Bool.and_eq_true] at c
  exact ⟨rfl, beq_iff_eq.mp c.1.2, (Bool.not_eq_true' _).mp c.2, Option.isNone_iff_eq_none.mp c.1.1⟩

theorem split_fresh {x y : Str} {t u : Tok} {Q : Value → Shared → Prop} (hy : (y.length == 0) = false) (hx : x.length ≤ lim) (hz : (Txt.split x y).length ≤ lim)
    (hq : ∀ l k, l.map (·.1) = Txt.split x y → Q (.ref s.heap.objs.size) { s with toks := k, heap := s.heap.push { cls := .type "list", data := .seq (strValues l).toArray } }) : wpAny (model prog w) A (call (.builtin "str.split") [.str x t, .str y u]) Q E s := by
  have el : lim = 100000 := rfl
  have hsz : x.length ≤ sizeLine := by rw [sizeLine_eq]; omega
  cases h1 : (decide (x.length < y.length) || decide (strKind x < strKind y))
  · cases hf : (occurrences x y 0 x.length (x.length + 1)).isEmpty
    · have et : Txt.split x y = partsBetween x (occurrences x y 0 x.length (x.length + 1)) y.length := (if_neg (ne_true_of_eq_false h1)).trans (if_neg (ne_true_of_eq_false hf))
      have hsz2 : (partsBetween x (occurrences x y 0 x.length (x.length + 1)) y.length).length ≤ sizeLine := by rw [← et, sizeLine_eq]; omega
      refine call_meets PySem.F.slot_str_split (typeIs_str _ _ _) PySem.F.entry_str_split (PySem.F.args_str_split_2 _ _) (meets_str_split_sep x y t u h1 hy hf hsz hsz2) ?_
      show wants Q E _ { s with toks := _, heap := s.heap.push { cls := .type "list", data := .seq (strsFrom s.toks (partsBetween x (occurrences x y 0 x.length (x.length + 1)) y.length)).toArray } }
      rw [strsFrom_eq]
      exact hq (numbered s.toks _) _ ((numbered_texts _ _).trans et.symm)
    · exact call_meets PySem.F.slot_str_split (typeIs_str _ _ _) PySem.F.entry_str_split (PySem.F.args_str_split_2 _ _) (meets_str_split_not_found x y t u h1 hy hf)
        (hq [(x, t)] s.toks ((if_neg (ne_true_of_eq_false h1)).trans (if_pos hf)).symm)
  · exact call_meets PySem.F.slot_str_split (typeIs_str _ _ _) PySem.F.entry_str_split (PySem.F.args_str_split_2 _ _) (meets_str_split_cannot_occur x y t u h1)
      (hq [(x, t)] s.toks (if_pos h1).symm)

/-- a new list: no one else's -/
inductive Fresh (X : ObjW) (N : Addr → Prop) (s : Shared) (l : List PV) (u : Value) (s₁ : Shared) : Prop
  | mk (a : Addr) (vs : List Value) (nD : Nat) (e : u = .ref a) (k : KS s s₁) (h0 : s.heap.get? a = none) (h1 : s₁.heap.get? a = some (seqO "list" vs nD)) (hl : l.length ≤ big) (hr : RelVs X (fun b => N b ∨ b = a) s₁.heap s₁.toks l vs) : Fresh X N s l u s₁

theorem split_own (XO : XOk prog w X) (S : Snd prog w X G mg mb ev n) (hR : Room n A) {o a : Expr} {ap pos : Pos} {l : List PV} {p₀ q₀ : PV} (g : Gnd X G mg mb s.heap) (e : EnvAt X N W s.heap s.toks env ε) (hc : (ap.endLine == pos.line && notSuper o) = true)
    (hp₀ : ev.E env.scope ε o = some p₀) (hq₀ : ev.E env.scope ε a = some q₀) (h : splitV p₀ q₀ = some l) : wpAny (model prog w) A (eval (.Call (.Attribute o "split" ap) [a] [] pos) env) (fun u s₁ => Fresh X N s l u s₁) E s := by
  cases p₀ with
  | str x gx => cases q₀ with
    | str y gy =>
      obtain ⟨hcond, h⟩ := if_none2 h
      obtain rfl := Option.some.inj h
      simp only [Bool.or_eq_true, decide_eq_true_eq, not_or, Bool.not_eq_true, Nat.not_lt] at hcond
      have hst : starEach [a] env = [(false, eval a env)] := by rw [starEach_cons (notBad S hq₀)]; rfl
      refine method_any (show 1 < 30 by decide) (by rw [hst]; rfl) hc (wpAny_mono (S.E A E s N W env ε o _ hR g e hp₀) (fun ov s₁ h₁ pl => ?_) fun _ _ q => q)
      have k₁ := h₁.1
      apply h₁.2.strC; intro t hl hg
      refine GM.split ?_
      rw [hst]
      refine callWith_builtin rfl (evalArgs_plain (spliced_cons (wpAny_mono (S.E A E s₁ N W env ε a _ hR (g.ks XO k₁) (e.ks k₁) hq₀) (fun v s₂ h₂ => spliced_nil ?_) fun _ _ q => q)))
      have k₂ := h₂.1
      apply h₂.2.strC; intro u hly hgy
      refine wp_toks_here (split_fresh hcond.1.1 hcond.2 hcond.1.2 fun l k hl hk => ?_)
      refine ⟨s₂.heap.objs.size, strValues l, 0, rfl, (k₁.trans k₂).trans (KS.push _ hk), none_of_ks (k₁.trans k₂) (none_of_size (Nat.le_refl _)), Heap.get?_push_size _ rfl, ?_, ?_⟩
      · unfold strsV
        rw [List.length_map]
        exact Nat.le_trans hcond.1.2 lim_big
      · rw [← hl]
        exact rel_strs (strsAre_of_values l) fun z hz => Nat.le_trans (part_short (hl ▸ hz)) (Nat.le_trans hcond.2 lim_big)
    | _ => exact no_some h
  | _ => exact no_some h

/-- what may be owned -/
theorem ownE_some {sc : Scope} {v : Expr} {l : List PV} (h : ownE ev sc ε v = some l) : (∃ pos, v = .List [] pos ∧ l = []) ∨
    ∃ o ap a pos p q, v = .Call (.Attribute o "split" ap) [a] [] pos ∧ (ap.endLine == pos.line && notSuper o) = true ∧ ev.E sc ε o = some p ∧ ev.E sc ε a = some q ∧ splitV p q = some l := by
  cases v with
  | List es pos => cases es with
    | nil => obtain rfl := Option.some.inj h; exact .inl ⟨pos, rfl, rfl⟩
    | cons => exact no_some h
  | Call f args kws pos => cases f with
    | Attribute o m ap => cases kws with
      | nil =>
        obtain ⟨c, h⟩ := if_some2 h
        rw [Bool.and_eq_true] at c
        obtain ⟨a, ha, h⟩ := Option.bind_eq_some_iff.mp h
        obtain ⟨p, hp, h⟩ := Option.bind_eq_some_iff.mp h
        obtain ⟨q, hq, h'⟩ := Option.bind_eq_some_iff.mp h
        obtain rfl := one_some ha
        obtain rfl := mkOf_name (beq_iff_eq.mp c.2)
        exact .inr ⟨o, ap, a, pos, p, q, rfl, c.1, hp, hq, h'⟩
      | cons => exact no_some h
    | _ => exact no_some h
  | _ => exact no_some h

theorem own_val (XO : XOk prog w X) (S : Snd prog w X G mg mb ev n) (hR : Room n A) {v : Expr} {l : List PV} (g : Gnd X G mg mb s.heap) (e : EnvAt X N W s.heap s.toks env ε) (h : ownE ev env.scope ε v = some l) :
    wpAny (model prog w) A (eval v env) (fun u s₁ => Fresh X N s l u s₁) E s := by
  rcases ownE_some h with ⟨pos, rfl, rfl⟩ | ⟨o, ap, a, pos, p, q, rfl, hc, hp, hq, h⟩
  · refine wpAny_List (wpAny_items_nil ⟨by simp, s.heap.objs.size, [], 0, rfl, KS.push _ (Nat.le_refl _), none_of_size (Nat.le_refl _), Heap.get?_push_size _ rfl, by decide, .nil⟩)
  · exact split_own XO S hR g e hc hp hq h

theorem Ends.ofKept {N' W' : Addr → Prop} (k : KS s s₁) (K : Kept X N' W' s₁ env ε' s₂) (h1 : ∀ b, N b → ¬ W b → N' b) (h2 : ∀ b, N' b → N b ∨ s.heap.get? b = none) (h3 : ∀ b, W' b → W b ∨ s.heap.get? b = none) (oc : ∀ x c, env.cells.lookup x = some c → W' c) :
    Ends X N W s env ε' .next .next s₂ := by
  obtain ⟨h₁, t₁, rfl, hs, ht⟩ := k
  obtain ⟨h₂, t₂, rfl, ht₂, hk, ha, e⟩ := K
  refine ⟨N', W', h₂, t₂, h1, h2, h3, rfl, Nat.le_trans ht ht₂, fun b o nw q => hk b o (fun z => ?_) (hs b o q), fun b q => ha b ?_, ⟨e, oc⟩, trivial⟩
  · rcases h3 b z with z | z
    · exact nw z
    · rw [q] at z; cases z
  · obtain ⟨o, ho⟩ := Option.isSome_iff_exists.mp q
    show (h₁.get? b).isSome = true
    rw [hs b o ho]; rfl

theorem EnvAt.more {h : Heap} {tk : Nat} {a : Addr} (e : EnvAt X N W h tk env ε) {h' : Heap} {tk' : Nat} (hk : Sub h h') (ht : tk ≤ tk') (ha : h.get? a = none) (hs : (h'.get? a).isSome = true) : EnvAt X (fun b => N b ∨ b = a) (fun b => W b ∨ b = a) h' tk' env ε := by
  have e1 : EnvAt X (fun b => N b ∨ b = a) W h' tk' env ε := e.shift ht (fun b o _ q => hk b o q) (fun x c o _ q => hk c o q) (fun x c hc => .inl (e.nC x c hc)) (fun b o nb q => ⟨fun z => z.elim nb (fun z => by rw [z, ha] at q; cases q), hk b o q⟩) (fun b z => .inl (e.wn b z)) fun b z => by
    rcases z with z | z
    · obtain ⟨o, ho⟩ := Option.isSome_iff_exists.mp (e.nb b z)
      rw [hk b o ho]; rfl
    · rw [z]; exact hs
  have ow : ∀ x l, ε.own = some (x, l) → OwnAt X (fun b => N b ∨ b = a) (fun b => W b ∨ b = a) h' tk' env x l := fun x l q => by
    obtain ⟨k, kd, a', n, vs, b1, b2, b3, b4, b5⟩ := e1.own x l q
    exact ⟨k, kd, a', n, vs, b1, .inl b2, b3, b4, b5⟩
  exact { e1 with wn := fun b z => z.elim (fun z => .inl (e.wn b z)) .inr, nL := .inl e1.nL, own := ow }

theorem EnvAt.also {h : Heap} {tk : Nat} {a : Addr} (e : EnvAt X N W h tk env ε) {h' : Heap} {tk' : Nat} (hk : Sub h h') (ht : tk ≤ tk') (ha : h.get? a = none) (hs : (h'.get? a).isSome = true) : EnvAt X (fun b => N b ∨ b = a) W h' tk' env ε :=
  e.shift ht (fun b o _ q => hk b o q) (fun x c o _ q => hk c o q) (fun x c hc => .inl (e.nC x c hc)) (fun b o nb q => ⟨fun z => z.elim nb (fun z => by rw [z, ha] at q; cases q), hk b o q⟩) (fun b z => .inl (e.wn b z)) fun b z => by
    rcases z with z | z
    · obtain ⟨o, ho⟩ := Option.isSome_iff_exists.mp (e.nb b z)
      rw [hk b o ho]; rfl
    · rw [z]; exact hs

theorem swaps_no {v t : Expr} {line : Nat} (h : isComp v = false) : swapsWith v (some t) line env = pure false := by
  cases v <;> first | rfl | (exfalso; simp [isComp] at h)
theorem swaps_some {v : Expr} {x : Str} {px : Pos} {line : Nat} : ∃ b, swapsWith v (some (.Name x px)) line env = pure b := by
  cases v <;> exact ⟨_, rfl⟩
theorem swaps_pair {v : Expr} {ts : List Expr} {k : Nat} {tp : Pos} {line : Nat} : swapsWith v (some (.Tuple ts k tp)) line env = pure false := by
  cases v <;> rfl

theorem assign_one (XO : XOk prog w X) (S : Snd prog w X G mg mb ev n) (hR : Room n A) {x : Str} {px pos : Pos} {v : Expr} {p : PV} (g : Gnd X G mg mb s.heap) (e : EnvS X N W s.heap s.toks env ε) (h : ev.E env.scope ε v = some p) (hs : setV env.scope ε x p = some ε') :
    wpAny (model prog w) A (exec (.Assign [.Name x px] v pos) env) (fun f s' => Ends X N W s env ε' .next f s') E s := by
  obtain ⟨b, hb⟩ := swaps_some (env := env) (v := v) (x := x) (px := px) (line := pos.line)
  have hpl : Places W env x := fun c _ hc => e.oc x c hc
  cases b with
  | false =>
    refine wpAny_Assign_Name (wpAny_mono (S.E A E s N W env ε v p hR g e.toEnvAt h) (fun u s₁ h₁ => ?_) fun _ _ q => q) hb
    obtain ⟨k₁, r₁⟩ := h₁
    refine store_kept (e.toEnvAt.ks k₁) r₁ hpl hs fun s₂ K => ?_
    exact Ends.ofKept k₁ K (fun _ q _ => q) (fun _ q => .inl q) (fun _ q => .inl q) e.oc
  | true =>
    have hc : isComp v = true := by
      cases q : isComp v with
      | true => rfl
      | false =>
        have e1 := hb.symm.trans (swaps_no (env := env) (t := .Name x px) (line := pos.line) q)
        have := congrArg (fun t : Sem Bool => match t with | .pure b => b | _ => false) e1
        exact absurd this (by decide)
    rw [PyProof.Rows.exec_Assign]
    refine wpAny_bind (wpAny_standAt ?_)
    show wpAny _ _ (swapsWithSole [.Name x px] v pos.line env >>= _) _ _ _
    have hb' : swapsWithSole [.Name x px] v pos.line env = pure true := hb
    rw [hb']
    refine wpAny_bind (wpAny_pure ?_)
    rw [if_pos rfl]
    refine wpAny_bind (S.U A E s N W env ε v p _ (fun _ s' => wpAny (model prog w) A (pure .next) (fun f s' => Ends X N W s env ε' .next f s') E s') hR g e.toEnvAt hc h fun u s₁ C k₁ hC hC₁ r₁ => ?_)
    have e₁ : EnvAt X (fun b => N b ∨ b = C) W s₁.heap s₁.toks env ε := e.toEnvAt.also k₁.sub k₁.toks hC hC₁
    have CW : ¬ W C := fun z => by have := e.nb C (e.wn C z); rw [hC] at this; cases this
    show wpAny _ _ (assign (.Name x px) env u) _ _ _
    refine assign_name e₁ r₁ hpl hs fun s₂ K => ⟨fun o q => ?_, fun h' hs' => wpAny_pure ?_⟩
    · obtain ⟨h₂, t₂, rfl, ht, hk, ha, e₂⟩ := K
      exact hk C o CW q
    · obtain ⟨h₂, t₂, rfl, ht, hk, ha, e₂⟩ := K
      have K' : Kept X (fun b => N b ∨ b = C) W s₁ env ε' { s₁ with heap := h₂, toks := t₂ } := ⟨h₂, t₂, rfl, ht, hk, ha, e₂⟩
      have up : ∀ b o, b ≠ C → h₂.get? b = some o → h'.get? b = some o := fun b o nb q => hs'.extBut b o nb q
      obtain ⟨h₁, t₁, es, hs₁, ht₁⟩ := k₁
      subst es
      refine ⟨fun b => (N b ∨ b = C) ∧ (h'.get? b).isSome = true, W, h', t₂, fun b nb _ => ⟨.inl nb, ?_⟩, fun b nb => nb.1.elim .inl fun z => .inr (z ▸ hC), fun b q => .inl q, rfl, Nat.le_trans ht₁ ht, fun b o nw q => ?_, fun b q => ?_, ⟨?_, e.oc⟩, trivial⟩
      · obtain ⟨o, ho⟩ := Option.isSome_iff_exists.mp (ha b (by
          obtain ⟨o, ho⟩ := Option.isSome_iff_exists.mp (e.nb b nb)
          show (h₁.get? b).isSome = true
          rw [hs₁ b o ho]; rfl))
        rw [up b o (fun z => by have := e.nb b nb; rw [z, hC] at this; cases this) ho]; rfl
      · exact up b o (fun z => by rw [z, hC] at q; cases q) (hk b o nw (hs₁ b o q))
      · obtain ⟨o, ho⟩ := Option.isSome_iff_exists.mp (ha b (by
          obtain ⟨o, ho⟩ := Option.isSome_iff_exists.mp q
          show (h₁.get? b).isSome = true
          rw [hs₁ b o ho]; rfl))
        rw [up b o (fun z => by rw [z, hC] at q; cases q) ho]; rfl
      · have some_of : ∀ b, b ≠ C → (h₂.get? b).isSome = true → (h'.get? b).isSome = true := fun b nb q => by
          obtain ⟨o, ho⟩ := Option.isSome_iff_exists.mp q
          rw [up b o nb ho]; rfl
        refine { e₂ with wn := fun b z => ⟨.inl (e.wn b z), some_of b (fun y => CW (y ▸ z)) (e₂.nb b (.inl (e.wn b z)))⟩, ns := ?_, nC := fun x c hc => ⟨.inl (e.nC x c hc), some_of c (fun y => by have := e.nb c (e.nC x c hc); rw [y, hC] at this; cases this) (e₂.nb c (e₂.nC x c hc))⟩, cell := ?_, nb := fun b z => z.2, vars := ?_, own := ?_ }
        · obtain ⟨m, o, es, ep, ho, r⟩ := e₂.ns
          exact ⟨m, o, es, ep, up _ o (fun z => CW (z ▸ e.nL)) ho, r⟩
        · intro y ky
          obtain ⟨c, v, hc, o, ho, r⟩ := e₂.cell y ky
          exact ⟨c, v, hc, o, up _ o (fun z => CW (z ▸ e.oc y c hc)) ho, r⟩
        · intro y q hq
          obtain ⟨v, a, r⟩ := e₂.vars y q hq
          refine ⟨v, ?_, r.tr (fun b o nb z => ⟨fun y => nb y.1, up b o (fun y => nb (.inr y)) z⟩) (Nat.le_refl _)⟩
          rcases a with ⟨k, m, ⟨o, es, ep, ho, r⟩, z⟩ | ⟨k, c, hcc, o, ho, z⟩
          · exact .inl ⟨k, m, ⟨o, es, ep, up _ o (fun z => CW (z ▸ e.nL)) ho, r⟩, z⟩
          · exact .inr ⟨k, c, hcc, o, up _ o (fun z => CW (z ▸ e.oc y c hcc)) ho, z⟩
        · intro y l hl
          obtain ⟨k, kd, a, n, vs, b1, b2, b3, b4, b5⟩ := e₂.own y l hl
          refine ⟨k, kd, a, n, vs, ?_, b2, up _ _ (fun z => CW (z ▸ b2)) b3, b4, b5.tr (fun b o nb z => ⟨fun y => nb y.1, up b o (fun y => nb (.inr y)) z⟩) (Nat.le_refl _)⟩
          rcases b1 with ⟨k, m, ⟨o, es, ep, ho, r⟩, z⟩ | ⟨k, c, hcc, o, ho, z⟩
          · exact .inl ⟨k, m, ⟨o, es, ep, up _ o (fun z => CW (z ▸ e.nL)) ho, r⟩, z⟩
          · exact .inr ⟨k, c, hcc, o, up _ o (fun z => CW (z ▸ e.oc y c hcc)) ho, z⟩
end
end Mine
end

section
set_option maxHeartbeats 1000000
open PySem PySem.Calls PyProof.Rows PySem.Spec PySem.Builtin PySem.Builtin.Str PySem.W
namespace Mine

section
variable {prog : Program} {w : World} {X : ObjW} {G : GCtx} {mg mb : Str → Option Value} {ev : Ev} {n : Nat}
variable {A : Around} {E : Value → Shared → Prop} {s s₁ s₂ : Shared} {N W : Addr → Prop} {env : Env} {ε ε' : LEnv} {tgt : Expr}

theorem swap_cases {x y : Str} {px py tp : Pos} {k : Nat} {v : Expr} (hok : ∀ e₁ e₂ kk vp, v = .Tuple [e₁, e₂] kk vp → swapOk e₁ e₂ = true) :
    swappedStores [.Tuple [.Name x px, .Name y py] k tp] v env = pure none ∨ (swappedStores [.Tuple [.Name x px, .Name y py] k tp] v env = pure (some [x, y]) ∧ env.kindOf x = some .local ∧ env.kindOf y = some .local) := by
  cases v with
  | Tuple vs kk vp =>
    match vs with
    | [] => exact .inl rfl
    | [_] => exact .inl rfl
    | _ :: _ :: _ :: _ =>
      refine .inl ?_
      unfold swappedStores
      simp
    | [e₁, e₂] =>
      have ok := hok e₁ e₂ kk vp rfl
      unfold swapOk at ok
      unfold swappedStores
      dsimp only
      split
      · exact .inl rfl
      split
      · exact .inl rfl
      split
      · exact .inl rfl
      rename_i hn
      split
      · exact .inl rfl
      rename_i hf
      split
      · rename_i hcst
        exfalso
        rw [Bool.or_eq_true] at ok
        rcases ok with ok | ok
        · rw [hcst] at ok; cases ok
        · exact hf ok
      · refine .inr ?_
        by_cases h1 : (env.kindOf x == some .local && px.line == ((([Expr.Name x px, Expr.Name y py] : List Expr).head?.map (·.pos.line)).getD 0)) = true
        · by_cases h2 : (env.kindOf y == some .local && py.line == ((([Expr.Name x px, Expr.Name y py] : List Expr).head?.map (·.pos.line)).getD 0)) = true
          · have e1 := (Bool.and_eq_true _ _ ▸ h1).1
            have e2 := (Bool.and_eq_true _ _ ▸ h2).1
            refine ⟨?_, by simpa using e1, by simpa using e2⟩
            simp only [List.filterMap_cons, List.filterMap_nil, h1, h2, if_true]
          · exfalso
            apply hn
            simp only [Bool.not_eq_true] at h2
            simp only [List.filterMap_cons, List.filterMap_nil, h1, h2, if_true]
            simp
        · exfalso
          apply hn
          simp only [Bool.not_eq_true] at h1
          simp only [List.filterMap_cons, List.filterMap_nil, h1]
          split <;> (split <;> simp_all)
  | _ => exact .inl rfl

theorem pair_assign {x y : Str} {px py tp pos : Pos} {k : Nat} {v : Expr} {P : Value → Value → Shared → Prop} {R : Shared → Prop} (hok : ∀ e₁ e₂ kk vp, v = .Tuple [e₁, e₂] kk vp → swapOk e₁ e₂ = true)
    (hv : wpAny (model prog w) A (eval v env) (fun val s₁ => wpAny (model prog w) A (unpackItems val 2 none) (fun items s₂ => ∃ a b, items = [a, b] ∧ P a b s₂) E s₁) E s)
    (hxy : ∀ a b s₂, P a b s₂ → wpAny (model prog w) A (storeName env x a) (fun _ s₃ => wpAny (model prog w) A (storeName env y b) (fun _ s₄ => R s₄) E s₃) E s₂)
    (hyx : ∀ a b s₂, P a b s₂ → wpAny (model prog w) A (storeName env y b) (fun _ s₃ => wpAny (model prog w) A (storeName env x a) (fun _ s₄ => R s₄) E s₃) E s₂) :
    wpAny (model prog w) A (exec (.Assign [.Tuple [.Name x px, .Name y py] k tp] v pos) env) (fun f s' => f = .next ∧ R s') E s := by
  rcases swap_cases (env := env) (x := x) (y := y) (px := px) (py := py) (k := k) (tp := tp) hok with hw | ⟨hw, _, _⟩
  · refine PyProof.Rows.Assign_Tuple (wpAny_mono hv (fun val s₁ h₁ => ?_) fun _ _ q => q) (swaps_pair (env := env) (v := v) (ts := [.Name x px, .Name y py]) (k := k) (tp := tp) (line := pos.line)) hw
    rw [arm_assign_Tuple]
    refine wpAny_bind (wpAny_standAt ?_)
    unfold unpack
    refine wpAny_bind (wpAny_holding (wpAny_mono h₁ (fun items s₂ h₂ => ?_) fun _ _ q => q))
    obtain ⟨a, b, rfl, hP⟩ := h₂
    show wpAny _ _ (assignInOrder [assign (.Name x px) env, assign (.Name y py) env] [a, b]) _ _ _
    refine wpAny_bind (wpAny_holding (PyProof.Rows.assign_Name (wpAny_mono (hxy a b s₂ hP) (fun _ s₃ h₃ => ?_) fun _ _ q => q)))
    refine wpAny_bind (wpAny_holding (PyProof.Rows.assign_Name (wpAny_mono h₃ (fun _ s₄ h₄ => ?_) fun _ _ q => q)))
    exact wpAny_pure ⟨rfl, h₄⟩
  · refine PyProof.Rows.Assign_Tuple_swapped (names := [x, y]) (wpAny_mono hv (fun val s₁ h₁ => wpAny_mono h₁ (fun items s₂ h₂ => ?_) fun _ _ q => q) fun _ _ q => q) (swaps_pair (env := env) (v := v) (ts := [.Name x px, .Name y py]) (k := k) (tp := tp) (line := pos.line)) hw
    obtain ⟨a, b, rfl, hP⟩ := h₂
    show wpAny _ _ (assignInOrder [fun z => bindName env y z, fun z => bindName env x z] [b, a]) _ _ _
    refine wpAny_bind (wpAny_holding (wpAny_bindName (wpAny_mono (hyx a b s₂ hP) (fun _ s₃ h₃ => ?_) fun _ _ q => q)))
    refine wpAny_bind (wpAny_holding (wpAny_bindName (wpAny_mono h₃ (fun _ s₄ h₄ => ?_) fun _ _ q => q)))
    exact wpAny_pure ⟨rfl, h₄⟩

theorem flow_next {R : Flow → Shared → Prop} {t : Sem Flow} (h : wpAny (model prog w) A t (fun f s' => f = .next ∧ R .next s') E s) : wpAny (model prog w) A t R E s :=
  wpAny_mono h (fun f s' q => by obtain ⟨rfl, q⟩ := q; exact q) fun _ _ q => q

theorem lookup_upd2 {x y : Str} {p q : PV} (hxy : x ≠ y) (l : List (Str × PV)) (z : Str) : (upd y q (upd x p l)).lookup z = (upd x p (upd y q l)).lookup z := by
  rw [lookup_upd, lookup_upd, lookup_upd, lookup_upd]
  by_cases h1 : z = y
  · subst h1
    rw [if_pos rfl, if_neg (Ne.symm hxy), if_pos rfl]
  · by_cases h2 : z = x
    · subst h2; rw [if_neg h1, if_pos rfl, if_pos rfl]
    · rw [if_neg h1, if_neg h2, if_neg h2, if_neg h1]

theorem assign_pair (hh : A.handled = none) {x y : Str} {px py tp pos : Pos} {k : Nat} {v : Expr} {p₀ : PV} {pq : PV × PV} {ε₁ : LEnv} (hxy : x ≠ y) (e : EnvS X N W s.heap s.toks env ε) (hok : ∀ e₁ e₂ kk vp, v = .Tuple [e₁, e₂] kk vp → swapOk e₁ e₂ = true)
    (hv : wpAny (model prog w) A (eval v env) (Res X N s p₀) E s) (hu : unp p₀ = some pq) (h1 : setV env.scope ε x pq.1 = some ε₁) (h2 : setV env.scope ε₁ y pq.2 = some ε') :
    wpAny (model prog w) A (exec (.Assign [.Tuple [.Name x px, .Name y py] k tp] v pos) env) (fun f s' => Ends X N W s env ε' .next f s') E s := by
  refine flow_next (R := fun f s' => Ends X N W s env ε' .next f s') (pair_assign (P := fun a b s₂ => KS s s₂ ∧ RelV X N s₂.heap s₂.toks pq.1 a ∧ RelV X N s₂.heap s₂.toks pq.2 b) hok ?_ ?_ ?_)
  · refine wpAny_mono hv (fun val s₁ h₁ => unpack_two (tgt := v) hh hu (.inl h₁.2) fun s₂ a b k r1 r2 => ⟨a, b, rfl, h₁.1.trans k, r1, r2⟩) fun _ _ q => q
  · rintro a b s₂ ⟨k₂, r1, r2⟩
    have e₂ := e.toEnvAt.ks k₂
    refine store_kept e₂ r1 (fun c _ hc => e.oc x c hc) h1 fun s₃ K => store_kept K.at (K.rel e.wn r2) (fun c _ hc => e.oc y c hc) h2 fun s₄ K' => ?_
    exact Ends.ofKept k₂ (K.trans K') (fun _ q _ => q) (fun _ q => .inl q) (fun _ q => .inl q) e.oc
  · rintro a b s₂ ⟨k₂, r1, r2⟩
    obtain ⟨o1, k1, rfl⟩ := setV_iff h1
    obtain ⟨o2, k2, rfl⟩ := setV_iff h2
    have e₂ := e.toEnvAt.ks k₂
    have o2' : isOwn ε y = false := o2
    refine store_kept e₂ r2 (fun c _ hc => e.oc y c hc) (setV_mk o2' k2) fun s₃ K => store_kept K.at (K.rel e.wn r1) (fun c _ hc => e.oc x c hc) (setV_mk (by exact o1) k1) fun s₄ K' => ?_
    exact Ends.ofKept k₂ ((K.trans K').congr (fun z => lookup_upd2 hxy ε.vars z) rfl) (fun _ q _ => q) (fun _ q => .inl q) (fun _ q => .inl q) e.oc

/-- the values of a pair that is written out -/
theorem pair_eval {e₁ e₂ : Expr} {kk : Nat} {vp : Pos} {Q : Value → Value → Shared → Prop} (hb1 : isBad e₁ = false) (hb2 : isBad e₂ = false) (hh : A.handled = none)
    (h : wpAny (model prog w) A (eval e₁ env) (fun a s₁ => wpAny (model prog w) A (eval e₂ env) (fun b s₂ => ∀ s₃, KS s₂ s₃ → Q a b s₃) E s₁) E s) :
    wpAny (model prog w) A (eval (.Tuple [e₁, e₂] kk vp) env) (fun val s₁ => wpAny (model prog w) A (unpackItems val 2 none) (fun items s₂ => ∃ a b, items = [a, b] ∧ Q a b s₂) E s₁) E s := by
  refine wpAny_Tuple (wpAny_items_cons (wpAny_mono h (fun a s₁ h₁ => wpAny_items_cons (wpAny_mono h₁ (fun b s₂ h₂ => wpAny_items_nil ⟨by rw [sizeLine_eq]; show 2 ≤ 16777216; omega, ?_⟩) fun _ _ q => q) (starEach_cons hb2)) fun _ _ q => q) (starEach_cons hb1))
  have hT : (s₂.heap.push { cls := .type "tuple", data := .seq [a, b].toArray }).IsTuple s₂.heap.objs.size [a, b].toArray := ⟨_, Heap.get?_push_size _ rfl, rfl, 0, rfl⟩
  have key := wpAny_unpackItems_tuple (prog := prog) (w := w) (A := A) (E := E) (s := { s₂ with heap := s₂.heap.push { cls := .type "tuple", data := .seq [a, b].toArray } }) (Q := fun items s₃ => ∃ a b, items = [a, b] ∧ Q a b s₃) hh hT
    fun h' he => ⟨a, b, rfl, h₂ _ ((KS.push _ (Nat.le_refl _)).trans (ks_extBut he))⟩
  have e2 : [a, b].toArray.size = 2 := rfl
  rw [e2] at key
  exact key

theorem own_notBad {sc : Scope} {v : Expr} {l : List PV} (h : ownE ev sc ε v = some l) : isBad v = false ∧ isComp v = false := by
  rcases ownE_some h with ⟨pos, rfl, rfl⟩ | ⟨o, ap, a, pos, p, q, rfl, _⟩
  · exact ⟨rfl, rfl⟩
  · exact ⟨rfl, rfl⟩

theorem EnvAt.widen {W' : Addr → Prop} {h : Heap} {tk : Nat} (e : EnvAt X N W h tk env ε) (hw : ∀ b, W b → W' b) (wn : ∀ b, W' b → N b) : EnvAt X N W' h tk env ε := by
  have ow : ∀ x l, ε.own = some (x, l) → OwnAt X N W' h tk env x l := fun x l q => by
    obtain ⟨k, kd, a', n, vs, b1, b2, b3, b4, b5⟩ := e.own x l q
    exact ⟨k, kd, a', n, vs, b1, hw _ b2, b3, b4, b5⟩
  exact { e with wn := wn, nL := hw _ e.nL, own := ow }
theorem Kept.widen {W' : Addr → Prop} {s' : Shared} (k : Kept X N W s env ε s') (hw : ∀ b, W b → W' b) (wn : ∀ b, W' b → N b) : Kept X N W' s env ε s' := by
  obtain ⟨h', tk, rfl, ht, hk, ha, e⟩ := k
  exact ⟨h', tk, rfl, ht, fun b o nw q => hk b o (fun z => nw (hw b z)) q, ha, e.widen hw wn⟩

theorem filter_upd {x y : Str} {q : PV} (hxy : x ≠ y) (l : List (Str × PV)) (z : Str) : ((upd y q l).filter (fun (u, _) => !(u == x))).lookup z = (upd y q (l.filter (fun (u, _) => !(u == x)))).lookup z := by
  have f1 := lookup_filter (fun u => !(u == x)) z (upd y q l)
  have f2 := lookup_filter (fun u => !(u == x)) z l
  rw [lookup_upd y z q (l.filter _), f2]
  refine f1.trans ?_
  rw [lookup_upd]
  by_cases hz : z = x
  · subst hz; simp [hxy]
  · simp [hz]

/-- an owned list has been made, and a value -/
inductive Made (X : ObjW) (N W : Addr → Prop) (s : Shared) (env : Env) (ε : LEnv) (l : List PV) (q : PV) (a b : Value) (s₂ : Shared) : Prop
  | mk (ad : Addr) (vs : List Value) (nD : Nat) (ea : a = .ref ad) (k₂ : KS s s₂) (had : s.heap.get? ad = none) (hget : s₂.heap.get? ad = some (seqO "list" vs nD)) (hll : l.length ≤ big) (hr : RelVs X (fun z => N z ∨ z = ad) s₂.heap s₂.toks l vs)
    (e₂ : EnvAt X (fun z => N z ∨ z = ad) W s₂.heap s₂.toks env ε) (rb : RelV X (fun z => N z ∨ z = ad) s₂.heap s₂.toks q b) : Made X N W s env ε l q a b s₂

/-- what the two stores of it lead to -/
abbrev Put (X : ObjW) (N W : Addr → Prop) (s : Shared) (env : Env) (ε : LEnv) (x y : Str) (l : List PV) (q : PV) (s₄ : Shared) : Prop := Ends X N W s env (ownEnv { ε with vars := upd y q ε.vars } x l) .next .next s₄

/-- stores of an owned list and of a value, in either order -/
theorem own_first {x y : Str} {a b : Value} {l : List PV} {q : PV} (hxy : x ≠ y) (e : EnvS X N W s.heap s.toks env ε) (hkx : env.kindOf x = some .local) (hdx : (x == ("__debug__" : Str)) = false)
    (ky : env.scope.names.lookup y = some .local ∨ env.scope.names.lookup y = some .cell) (M : Made X N W s env ε l q a b s₂) :
    wpAny (model prog w) A (storeName env x a) (fun _ s₃ => wpAny (model prog w) A (storeName env y b) (fun _ s₄ => Put X N W s env ε x y l q s₄) E s₃) E s₂ := by
  obtain ⟨ad, vs, nD, rfl, k₂, had, hget, hll, hr, e₂, rb⟩ := M
  have wn' : ∀ z, (W z ∨ z = ad) → (N z ∨ z = ad) := fun z q => q.elim (fun q => .inl (e.wn z q)) .inr
  refine store_own (e₂.widen (fun _ q => .inl q) wn') hkx hdx hget (.inr rfl) hll hr fun s₃ K => store_kept K.at (K.rel wn' rb) (fun c _ hc => .inl (e.oc y c hc)) (setV_mk (ε := ownEnv ε x l) (by unfold isOwn ownEnv; exact beq_eq_false_iff_ne.mpr hxy) ky) fun s₄ K' => ?_
  exact Ends.ofKept k₂ ((K.trans K').congr (fun z => filter_upd hxy ε.vars z) rfl) (fun _ q _ => .inl q) (fun _ q => q.elim .inl fun z => .inr (z ▸ had)) (fun _ q => q.elim .inl fun z => .inr (z ▸ had)) fun c d hd => .inl (e.oc c d hd)

theorem own_last {x y : Str} {a b : Value} {l : List PV} {q : PV} (e : EnvS X N W s.heap s.toks env ε) (hkx : env.kindOf x = some .local) (hdx : (x == ("__debug__" : Str)) = false) (oy : isOwn ε y = false)
    (ky : env.scope.names.lookup y = some .local ∨ env.scope.names.lookup y = some .cell) (M : Made X N W s env ε l q a b s₂) :
    wpAny (model prog w) A (storeName env y b) (fun _ s₃ => wpAny (model prog w) A (storeName env x a) (fun _ s₄ => Put X N W s env ε x y l q s₄) E s₃) E s₂ := by
  obtain ⟨ad, vs, nD, rfl, k₂, had, hget, hll, hr, e₂, rb⟩ := M
  have wn' : ∀ z, (W z ∨ z = ad) → (N z ∨ z = ad) := fun z q => q.elim (fun q => .inl (e.wn z q)) .inr
  refine store_kept e₂ rb (fun c _ hc => e.oc y c hc) (setV_mk oy ky) fun s₃ K => ?_
  have hget₃ : s₃.heap.get? ad = some (seqO "list" vs nD) := by
    obtain ⟨h', tk, rfl, ht, hk, ha, _⟩ := K
    exact hk ad _ (fun z => not_in_of_none e.nb had (e.wn ad z)) hget
  have hr₃ : RelVs X (fun z => N z ∨ z = ad) s₃.heap s₃.toks l vs := by
    obtain ⟨h', tk, rfl, ht, hk, ha, _⟩ := K
    exact hr.tr (fun c o nc q => ⟨nc, hk c o (fun z => nc (.inl (e.wn c z))) q⟩) ht
  refine store_own (K.at.widen (fun _ q => .inl q) wn') hkx hdx hget₃ (.inr rfl) hll hr₃ fun s₄ K' => ?_
  exact Ends.ofKept k₂ ((K.widen (fun _ q => .inl q) wn').trans K') (fun _ q _ => .inl q) (fun _ q => q.elim .inl fun z => .inr (z ▸ had)) (fun _ q => q.elim .inl fun z => .inr (z ▸ had)) fun c d hd => .inl (e.oc c d hd)

theorem pair_ok {e₁ e₂ : Expr} {kk : Nat} {vp : Pos} (h : swapOk e₁ e₂ = true) : ∀ e₁' e₂' kk' vp', Expr.Tuple [e₁, e₂] kk vp = .Tuple [e₁', e₂'] kk' vp' → swapOk e₁' e₂' = true := fun _ _ _ _ z => by
  injection z with z
  injection z with z1 z2
  injection z2 with z2
  rw [← z1, ← z2]; exact h

theorem assign_own1 (XO : XOk prog w X) (S : Snd prog w X G mg mb ev n) (hR : Room n A) {x y : Str} {px py tp pos vp : Pos} {k kk : Nat} {e₁ e₂ : Expr} {l : List PV} {q : PV} {ε₁ : LEnv} (hxy : x ≠ y) (g : Gnd X G mg mb s.heap) (e : EnvS X N W s.heap s.toks env ε) (hok : swapOk e₁ e₂ = true)
    (hl : ownE ev env.scope ε e₁ = some l) (hq : ev.E env.scope ε e₂ = some q) (h1 : setV env.scope ε y q = some ε₁) (h2 : putOwn env.scope ε₁ x l = some ε') :
    wpAny (model prog w) A (exec (.Assign [.Tuple [.Name x px, .Name y py] k tp] (.Tuple [e₁, e₂] kk vp) pos) env) (fun f s' => Ends X N W s env ε' .next f s') E s := by
  obtain ⟨rfl, hkx, hdx, hno⟩ := putOwn_some h2
  obtain ⟨oy, ky, rfl⟩ := setV_iff h1
  refine flow_next (R := fun f s' => Ends X N W s env _ .next f s') (pair_assign (P := fun a b s₂ => Made X N W s env ε l q a b s₂) (pair_ok hok) (pair_eval (own_notBad hl).1 (notBad S hq) hR.1 ?_) (fun a b s₂ M => own_first hxy e hkx hdx ky M) (fun a b s₂ M => own_last e hkx hdx oy ky M))
  refine wpAny_mono (own_val XO S hR g e.toEnvAt hl) (fun a s₁ h₁ => ?_) fun _ _ q => q
  obtain ⟨ad, vs, nD, rfl, k₁, had, hget, hll, hr⟩ := h₁
  have e₁' := e.toEnvAt.also k₁.sub k₁.toks had (by rw [hget]; rfl)
  refine wpAny_mono (S.E A E s₁ _ _ env ε e₂ q hR (g.ks XO k₁) e₁' hq) (fun b s₂ h₂ s₃ k₃ => ?_) fun _ _ q => q
  exact ⟨ad, vs, nD, rfl, (k₁.trans h₂.1).trans k₃, had, (h₂.1.trans k₃).sub _ _ hget, hll, hr.ks (h₂.1.trans k₃), e₁'.ks (h₂.1.trans k₃), h₂.2.ks k₃⟩

theorem assign_own2 (XO : XOk prog w X) (S : Snd prog w X G mg mb ev n) (hR : Room n A) {x y : Str} {px py tp pos vp : Pos} {k kk : Nat} {e₁ e₂ : Expr} {l : List PV} {q : PV} {ε₁ : LEnv} (hxy : x ≠ y) (g : Gnd X G mg mb s.heap) (e : EnvS X N W s.heap s.toks env ε) (hok : swapOk e₁ e₂ = true)
    (hq : ev.E env.scope ε e₁ = some q) (hl : ownE ev env.scope ε e₂ = some l) (h1 : setV env.scope ε x q = some ε₁) (h2 : putOwn env.scope ε₁ y l = some ε') :
    wpAny (model prog w) A (exec (.Assign [.Tuple [.Name x px, .Name y py] k tp] (.Tuple [e₁, e₂] kk vp) pos) env) (fun f s' => Ends X N W s env ε' .next f s') E s := by
  obtain ⟨rfl, hky, hdy, hno⟩ := putOwn_some h2
  obtain ⟨ox, kx, rfl⟩ := setV_iff h1
  refine flow_next (R := fun f s' => Ends X N W s env _ .next f s') (pair_assign (P := fun a b s₂ => Made X N W s env ε l q b a s₂) (pair_ok hok) (pair_eval (notBad S hq) (own_notBad hl).1 hR.1 ?_) (fun a b s₂ M => own_last e hky hdy ox kx M) (fun a b s₂ M => own_first (Ne.symm hxy) e hky hdy kx M))
  refine wpAny_mono (S.E A E s _ _ env ε e₁ q hR g e.toEnvAt hq) (fun a s₁ h₁ => ?_) fun _ _ q => q
  refine wpAny_mono (own_val XO S hR (g.ks XO h₁.1) (e.toEnvAt.ks h₁.1) hl) (fun b s₂ h₂ s₃ k₃ => ?_) fun _ _ q => q
  obtain ⟨ad, vs, nD, rfl, k₂, had, hget, hll, hr⟩ := h₂
  have had' := none_of_ks h₁.1 had
  have r := h₁.2.tr (N' := fun z => N z ∨ z = ad) (fun b o nb q => ⟨fun z => z.elim nb (fun z => by rw [z, had] at q; exact no_some q), k₂.sub b o q⟩) k₂.toks
  exact ⟨ad, vs, nD, rfl, (h₁.1.trans k₂).trans k₃, had', k₃.sub _ _ hget, hll, hr.ks k₃, (e.toEnvAt.also (h₁.1.trans k₂).sub (h₁.1.trans k₂).toks had' (by rw [hget]; rfl)).ks k₃, r.ks k₃⟩

theorem assign_own (XO : XOk prog w X) (S : Snd prog w X G mg mb ev n) (hR : Room n A) {x : Str} {px pos : Pos} {v : Expr} {l : List PV} (g : Gnd X G mg mb s.heap) (e : EnvS X N W s.heap s.toks env ε) (hl : ownE ev env.scope ε v = some l) (h2 : putOwn env.scope ε x l = some ε') :
    wpAny (model prog w) A (exec (.Assign [.Name x px] v pos) env) (fun f s' => Ends X N W s env ε' .next f s') E s := by
  obtain ⟨rfl, hkx, hdx, hno⟩ := putOwn_some h2
  refine wpAny_Assign_Name (wpAny_mono (own_val XO S hR g e.toEnvAt hl) (fun u s₁ h₁ => ?_) fun _ _ q => q) (swaps_no (own_notBad hl).2)
  obtain ⟨ad, vs, nD, rfl, k₁, had, hget, hll, hr⟩ := h₁
  have e₁ := e.toEnvAt.more k₁.sub k₁.toks had (by rw [hget]; rfl)
  refine store_own e₁ hkx hdx hget (.inr rfl) hll hr fun s₂ K => ?_
  exact Ends.ofKept k₁ K (fun _ q _ => .inl q) (fun _ q => q.elim .inl fun z => .inr (z ▸ had)) (fun _ q => q.elim .inl fun z => .inr (z ▸ had)) fun c d hd => .inl (e.oc c d hd)

theorem asPair_some {v : Expr} {ab : Expr × Expr} (h : asPair v = some ab) : ∃ kk vp, v = .Tuple [ab.1, ab.2] kk vp := by
  cases v with
  | Tuple es kk vp => obtain rfl := two_some (a := ab) h; exact ⟨kk, vp, rfl⟩
  | _ => exact no_some h

theorem assignP_sound (XO : XOk prog w X) (S : Snd prog w X G mg mb ev n) (hR : Room n A) {x y : Str} {px py tp pos vp : Pos} {k kk : Nat} {e₁ e₂ : Expr} (hxy : x ≠ y) (g : Gnd X G mg mb s.heap) (e : EnvS X N W s.heap s.toks env ε) (h : assignP G ev env.scope ε x y e₁ e₂ = some ε') :
    wpAny (model prog w) A (exec (.Assign [.Tuple [.Name x px, .Name y py] k tp] (.Tuple [e₁, e₂] kk vp) pos) env) (fun f s' => Ends X N W s env ε' .next f s') E s := by
  obtain ⟨hok, h⟩ := if_none2 h
  have hok : swapOk e₁ e₂ = true := by simpa using hok
  by_cases c1 : (G.owns.contains x && ownForm e₁) = true
  · rw [if_pos c1] at h
    obtain ⟨l, hl, h⟩ := Option.bind_eq_some_iff.mp h
    obtain ⟨q, hq, h⟩ := Option.bind_eq_some_iff.mp h
    obtain ⟨ε₁, h1, h2⟩ := Option.bind_eq_some_iff.mp h
    exact assign_own1 XO S hR hxy g e hok hl hq h1 h2
  · rw [if_neg c1] at h
    by_cases c2 : (G.owns.contains y && ownForm e₂) = true
    · rw [if_pos c2] at h
      obtain ⟨q, hq, h⟩ := Option.bind_eq_some_iff.mp h
      obtain ⟨l, hl, h⟩ := Option.bind_eq_some_iff.mp h
      obtain ⟨ε₁, h1, h2⟩ := Option.bind_eq_some_iff.mp h
      exact assign_own2 XO S hR hxy g e hok hq hl h1 h2
    · rw [if_neg c2] at h
      obtain ⟨p, hp, h⟩ := Option.bind_eq_some_iff.mp h
      obtain ⟨q, hq, h⟩ := Option.bind_eq_some_iff.mp h
      obtain ⟨ε₁, h1, h2⟩ := Option.bind_eq_some_iff.mp h
      refine assign_pair (p₀ := .tup [p, q]) (pq := (p, q)) hR.1 hxy e (pair_ok hok) ?_ rfl h1 h2
      refine wpAny_Tuple (wpAny_mono (evs_sound XO S hR g e.toEnvAt (ps := [p, q]) (by simp [evs, hp, hq])) (fun vs s₁ h₁ => ⟨?_, ?_⟩) fun _ _ q => q)
      · rw [← h₁.2.length, sizeLine_eq]; show 2 ≤ 16777216; decide
      · exact ⟨h₁.1.trans (KS.push _ (Nat.le_refl _)), RelV.newTuple (e.toEnvAt.ks h₁.1).nb (by show 2 ≤ big; decide) h₁.2 rfl (Nat.le_refl _)⟩

theorem assignV_sound (XO : XOk prog w X) (S : Snd prog w X G mg mb ev n) (hR : Room n A) {t v : Expr} {pos : Pos} (g : Gnd X G mg mb s.heap) (e : EnvS X N W s.heap s.toks env ε) (h : assignV G ev env.scope ε t v = some ε') :
    wpAny (model prog w) A (exec (.Assign [t] v pos) env) (fun f s' => Ends X N W s env ε' .next f s') E s := by
  cases t with
  | Name x px =>
    have h : (if G.owns.contains x && ownForm v then (ownE ev env.scope ε v).bind fun l => putOwn env.scope ε x l else (ev.E env.scope ε v).bind fun p => setV env.scope ε x p) = some ε' := h
    by_cases c1 : (G.owns.contains x && ownForm v) = true
    · rw [if_pos c1] at h
      obtain ⟨l, hl, h⟩ := Option.bind_eq_some_iff.mp h
      exact assign_own XO S hR g e hl h
    · rw [if_neg c1] at h
      obtain ⟨p, hp, h⟩ := Option.bind_eq_some_iff.mp h
      exact assign_one XO S hR g e hp h
  | Tuple es k tp =>
    obtain ⟨xy, hn, h⟩ := Option.bind_eq_some_iff.mp h
    obtain ⟨px, py, rfl⟩ := names2_some hn
    obtain ⟨hxy, h⟩ := if_none2 h
    have hxy : xy.1 ≠ xy.2 := fun z => hxy (beq_iff_eq.mpr z)
    cases hv : asPair v with
    | some ab =>
      rw [hv] at h
      obtain ⟨kk, vp, rfl⟩ := asPair_some hv
      exact assignP_sound XO S hR hxy g e h
    | none =>
      rw [hv] at h
      obtain ⟨p, hp, h⟩ := Option.bind_eq_some_iff.mp h
      obtain ⟨pq, hu, h⟩ := Option.bind_eq_some_iff.mp h
      obtain ⟨ε₁, h1, h2⟩ := Option.bind_eq_some_iff.mp h
      exact assign_pair hR.1 hxy e (fun e₁ e₂ kk vp z => by rw [z] at hv; exact no_some hv.symm) (S.E A E s N W env ε v _ hR g e.toEnvAt hp) hu h1 h2
  | _ => exact no_some h
end
end Mine
end

section
set_option maxHeartbeats 1000000
open PySem PySem.Calls PyProof.Rows PySem.Spec PySem.Builtin PySem.Builtin.Str PySem.W
namespace Mine

section
variable {prog : Program} {w : World} {X : ObjW} {G : GCtx} {mg mb : Str → Option Value} {ev : Ev} {n : Nat}
variable {A : Around} {E : Value → Shared → Prop} {s s₁ s₂ : Shared} {N W : Addr → Prop} {env : Env} {ε ε' : LEnv} {tgt : Expr} {h₀ : Heap} {fl : Fl}

theorem Ends.mono {N₁ W₁ : Addr → Prop} {f : Flow} {s' : Shared} (hN : ∀ b, N₁ b → N b) (hW : ∀ b, W₁ b → W b) (hb : ∀ b, N b → ¬ W b → N₁ b) (h : Ends X N₁ W₁ s env ε' fl f s') : Ends X N W s env ε' fl f s' := by
  obtain ⟨N₂, W₂, h₂, t₂, a1, a2, a3, a4, a5, a6, a7, a8, a9⟩ := h
  exact ⟨N₂, W₂, h₂, t₂, fun b q nq => a1 b (hb b q nq) (fun z => nq (hW b z)), fun b q => (a2 b q).elim (fun z => .inl (hN b z)) .inr, fun b q => (a3 b q).elim (fun z => .inl (hW b z)) .inr, a4, a5, fun b o nq q => a6 b o (fun z => nq (hW b z)) q, a7, a8, a9⟩

theorem augV_some {op : Operator} {p q r : PV} (h : augV op p q = some r) : binV op p q = some r ∧ (op = .Add ∨ op = .Sub) ∧ ((∃ i, p = .int i) ∨ ∃ x g, p = .str x g) := by
  cases op with
  | Add => cases p with
    | int i => exact ⟨h, .inl rfl, .inl ⟨i, rfl⟩⟩
    | str x g => exact ⟨h, .inl rfl, .inr ⟨x, g, rfl⟩⟩
    | _ => exact no_some h
  | Sub => cases p with
    | int i => exact ⟨h, .inr rfl, .inl ⟨i, rfl⟩⟩
    | _ => exact no_some h
  | _ => exact no_some h

theorem aug_sound (XO : XOk prog w X) (S : Snd prog w X G mg mb ev n) (hR : Room n A) {x : Str} {px pos : Pos} {op : Operator} {v : Expr} {p q r : PV} (g : Gnd X G mg mb s.heap) (e : EnvS X N W s.heap s.toks env ε) (hp : ε.vars.lookup x = some p) (hq : ev.E env.scope ε v = some q)
    (hr : augV op p q = some r) (hs : setV env.scope ε x r = some ε') : wpAny (model prog w) A (exec (.AugAssign (.Name x px) op v pos) env) (fun f s' => Ends X N W s env ε' .next f s') E s := by
  obtain ⟨u, hv, hrel⟩ := e.vars x p hp
  refine wpAny_AugAssign_Name (load_var e.kind hv (wpAny_mono (S.E A E s N W env ε v q hR g e.toEnvAt hq) (fun u' s₁ h₁ => ?_) fun _ _ q => q))
  refine wpAny_mono (ibinV_sound (augV_some hr).1 (augV_some hr).2 (hrel.ks h₁.1) h₁.2) (fun z s₂ h₂ => ?_) fun _ _ q => q
  have k₂ := h₁.1.trans h₂.1
  refine store_kept (e.toEnvAt.ks k₂) h₂.2 (fun c _ hc => e.oc x c hc) hs fun s₃ K => ?_
  exact Ends.ofKept k₂ K (fun _ q _ => q) (fun _ q => .inl q) (fun _ q => .inl q) e.oc

theorem EnvS.ks {s' : Shared} (e : EnvS X N W s.heap s.toks env ε) (k : KS s s') : EnvS X N W s'.heap s'.toks env ε := e.keeps k.sub k.toks

theorem if_sound (XO : XOk prog w X) (S : Snd prog w X G mg mb ev n) (hR : Room n A) {t : Expr} {a b : List Stmt} {pos : Pos} {c : Bool} (g : Gnd X G mg mb h₀) (hs : Sub h₀ s.heap) (hW : ∀ b, W b → h₀.get? b = none) (e : EnvS X N W s.heap s.toks env ε)
    (hc : ev.T env.scope ε t = some c) (h : ev.S env.scope ε (if c then a else b) = some (ε', fl)) : wpAny (model prog w) A (exec (.If t a b pos) env) (fun f s' => Ends X N W s env ε' fl f s') E s := by
  have gs := g.keeps XO.baseK hs
  refine wpAny_If (wpAny_mono (S.T A E s N W env ε t c hR gs e.toEnvAt hc) (fun d s₁ h₁ => ?_) fun _ _ q => q)
  obtain ⟨k₁, rfl⟩ := h₁
  have go := S.S A E s₁ N W env ε _ ε' fl h₀ hR g (fun b o q => k₁.sub b o (hs b o q)) hW (e.ks k₁) h
  split
  · rename_i hd
    rw [if_pos hd] at go
    exact wpAny_mono go (fun f s' q => q.from e.nb k₁) fun _ _ q => q
  · rename_i hd
    rw [if_neg hd] at go
    exact wpAny_mono go (fun f s' q => q.from e.nb k₁) fun _ _ q => q

theorem Ends.isNext {f : Flow} {s' : Shared} (h : Ends X N W s env ε' .next f s') : f = .next := by
  obtain ⟨_, _, _, _, _, _, _, _, _, _, _, _, a⟩ := h
  cases f <;> first | rfl | exact a.elim
theorem Ends.isRet {f : Flow} {s' : Shared} {p : PV} (h : Ends X N W s env ε' (.ret p) f s') : ∃ v, f = .ret v := by
  obtain ⟨_, _, _, _, _, _, _, _, _, _, _, _, a⟩ := h
  cases f <;> first | exact ⟨_, rfl⟩ | exact a.elim

/-- behind a part of a body: what the rest may lean on -/
theorem Ends.sub₀ {f : Flow} {s' : Shared} (hs : Sub h₀ s.heap) (hW : ∀ b, W b → h₀.get? b = none) (h : Ends X N W s env ε' fl f s') : Sub h₀ s'.heap := by
  obtain ⟨N', W', h', tk, a1, a2, a3, rfl, a5, a6, a7, e', _⟩ := h
  exact fun b o q => a6 b o (fun z => by rw [hW b z] at q; exact no_some q) (hs b o q)
theorem none_sub {h : Heap} {b : Addr} (hs : Sub h₀ h) (z : h.get? b = none) : h₀.get? b = none := by
  cases q : h₀.get? b with
  | none => rfl
  | some o => rw [hs b o q] at z; exact no_some z.symm
theorem Ends.stay (e : EnvS X N W s.heap s.toks env ε) : Ends X N W s env ε .next .next s :=
  ⟨N, W, s.heap, s.toks, fun _ q _ => q, fun _ q => .inl q, fun _ q => .inl q, rfl, Nat.le_refl _, fun _ _ _ q => q, fun _ q => q, e, trivial⟩

/-- the rest of a run, from where a part of it has ended -/
theorem Ends.go (S : Snd prog w X G mg mb ev n) {E : Value → Shared → Prop} {Q : Flow → Shared → Prop} {A : Around} {s' : Shared} {ss : List Stmt} {ε₁ ε₂ : LEnv} {fl₂ : Fl} {f : Flow} (hR : Room n A) (g : Gnd X G mg mb h₀) (hs : Sub h₀ s.heap) (hW : ∀ b, W b → h₀.get? b = none) (nb : ∀ b, N b → (s.heap.get? b).isSome = true) (h : Ends X N W s env ε₁ .next f s')
    {s₁ : Shared} (k : KS s' s₁) (hS : ev.S env.scope ε₁ ss = some (ε₂, fl₂)) (hQ : ∀ f s₂, Ends X N W s env ε₂ fl₂ f s₂ → Q f s₂) : wpAny (model prog w) A (execs ss env) Q E s₁ := by
  have hs' := h.sub₀ hs hW
  obtain ⟨N', W', h', tk, a1, a2, a3, rfl, a5, a6, a7, e', _⟩ := h
  have hW' : ∀ b, W' b → h₀.get? b = none := fun b z => (a3 b z).elim (hW b) (none_sub hs)
  exact wpAny_mono (S.S A E s₁ N' W' env ε₁ ss ε₂ fl₂ h₀ hR g (fun b o q => k.sub b o (hs' b o q)) hW' (EnvS.ks e' k) hS) (fun f s₃ h₃ => hQ f s₃ (Ends.then nb a1 a2 a3 a5 a6 a7 (h₃.from e'.nb k))) fun _ _ q => q

/-- a test, where a part of a run has ended -/
theorem Ends.test (XO : XOk prog w X) (S : Snd prog w X G mg mb ev n) {E : Value → Shared → Prop} {Q : Bool → Shared → Prop} {A : Around} {s' : Shared} {t : Expr} {ε₁ : LEnv} {b : Bool} {f : Flow} (hR : Room n A) (g : Gnd X G mg mb h₀) (hs : Sub h₀ s.heap) (hW : ∀ b, W b → h₀.get? b = none) (nb : ∀ b, N b → (s.heap.get? b).isSome = true) (h : Ends X N W s env ε₁ .next f s')
    (hT : ev.T env.scope ε₁ t = some b) (hQ : ∀ s₁, KS s' s₁ → Ends X N W s env ε₁ .next .next s₁ → Q b s₁) : wpAny (model prog w) A (isTrue t env (eval t env)) Q E s' := by
  have hs' := h.sub₀ hs hW
  obtain ⟨N', W', h', tk, a1, a2, a3, rfl, a5, a6, a7, e', _⟩ := h
  refine wpAny_mono (S.T A E _ N' W' env ε₁ t b hR (g.keeps XO.baseK hs') e'.toEnvAt hT) (fun d s₁ h₁ => ?_) fun _ _ q => q
  obtain ⟨k₁, rfl⟩ := h₁
  exact hQ s₁ k₁ (Ends.then nb a1 a2 a3 a5 a6 a7 ((Ends.stay (EnvS.ks e' k₁)).from e'.nb k₁))

theorem while_sound (XO : XOk prog w X) (S : Snd prog w X G mg mb ev n) (hR : Room n A) {t : Expr} {body : List Stmt} {pos : Pos} {k : Nat} (g : Gnd X G mg mb h₀) (hs : Sub h₀ s.heap) (hW : ∀ b, W b → h₀.get? b = none) (e : EnvS X N W s.heap s.toks env ε)
    (h : whileL ev env.scope t body k ε = some (ε', fl)) : wpAny (model prog w) A (exec (.While t body [] pos) env) (fun f s' => Ends X N W s env ε' fl f s') E s := by
  refine wpAny_While (codeAny_whileLoop (fun k s' => ∃ ε₁, Ends X N W s env ε₁ .next .next s' ∧ whileL ev env.scope t body k ε₁ = some (ε', fl)) ?_ k ⟨ε, Ends.stay e, h⟩)
  rintro k s' ⟨ε₁, hE, h⟩
  cases k with
  | zero => exact no_some h
  | succ k =>
    obtain ⟨b, hb, h⟩ := Option.bind_eq_some_iff.mp h
    refine Ends.test XO S hR g hs hW e.nb hE hb fun s₁ k₁ E₁ => ?_
    cases b with
    | true =>
      obtain ⟨⟨ε₂, fl₂⟩, h2, h⟩ := Option.bind_eq_some_iff.mp h
      refine Ends.go S hR g hs hW e.nb hE k₁ h2 fun f s₃ h₃ => ?_
      cases fl₂ with
      | next =>
        have := h₃.isNext
        subst this
        exact ⟨k, Nat.lt_succ_self _, ε₂, h₃, h⟩
      | ret p =>
        obtain ⟨v, rfl⟩ := h₃.isRet
        cases h
        exact h₃
    | false =>
      cases h
      exact wpAny_execs_nil E₁
end
end Mine
end

section
set_option maxHeartbeats 1000000
open PySem PySem.Calls PyProof.Rows PySem.Spec PySem.Builtin PySem.Builtin.Str PySem.W
namespace Mine

section
variable {prog : Program} {w : World} {X : ObjW} {G : GCtx} {mg mb : Str → Option Value} {ev : Ev} {n : Nat}
variable {A : Around} {E : Value → Shared → Prop} {s s₁ s₂ : Shared} {N W : Addr → Prop} {env : Env} {ε ε' : LEnv} {tgt : Expr} {h₀ : Heap} {fl : Fl}

theorem ItemIs.less {N' : Addr → Prop} {h : Heap} {tk : Nat} {p : PV} {v : Value} (hn : ∀ b, N' b → N b) (r : ItemIs X N h tk tgt p v) : ItemIs X N' h tk tgt p v := by
  rcases r with r | ⟨T, vals, ps, a, b, c, d, e⟩
  · exact .inl (r.less hn)
  · exact .inr ⟨T, vals, ps, a, b, c, d.less hn, e⟩

structure ForInv (X : ObjW) (N W : Addr → Prop) (s s₂ : Shared) (wr : List Addr) (St : Nat → Heap → Prop) (env : Env) (ε₁ : LEnv) (N₁ W₁ : Addr → Prop) (i : Nat) (h' : Heap) (tk : Nat) : Prop where
  t1 : s.toks ≤ tk
  t2 : s₂.toks ≤ tk
  a1 : ∀ b, N b → ¬ W b → N₁ b
  a2 : ∀ b ∈ wr, N₁ b
  a3 : ∀ b, N₁ b → N b ∨ b ∈ wr ∨ s₂.heap.get? b = none
  a4 : ∀ b, W₁ b → W b ∨ s₂.heap.get? b = none
  kept : ∀ b o, ¬ W b → b ∉ wr → s₂.heap.get? b = some o → h'.get? b = some o
  alive : ∀ b, (s₂.heap.get? b).isSome = true → b ∉ wr → (h'.get? b).isSome = true
  st : St i h'
  env : EnvS X N₁ W₁ h' tk env ε₁

theorem for_loop (S : Snd prog w X G mg mb ev n) (hR : Room n A) {body : List Stmt} {it : Value} {ps : List PV} (g : Gnd X G mg mb h₀) (hs : Sub h₀ s.heap) (hW : ∀ b, W b → h₀.get? b = none) (e : EnvS X N W s.heap s.toks env ε)
    (k₂ : KS s s₂) (T : Turning prog w X N tgt it ps s s₂) (h : forL ev env.scope tgt body ps ε = some (ε', fl)) (Er : Value → Shared → Prop) :
    codeAny (model prog w) A (.forLoop tgt it body [] env) (fun r s' => match r with | .ok f => Ends X N W s env ε' fl f s' | .error x => Er x s') s₂ := by
  obtain ⟨I, fp, wr, P, Md, St, rfl, KK, hst, hfp, hwr, al, self, items⟩ := T
  have hh := hR.1
  have K := KK A hh
  have wr2 := al 0 _ hst
  have noWs : ∀ b, W b → b ∉ wr := fun b z y => by have := e.nb b (e.wn b z); rw [hwr b y] at this; cases this
  have base : ∀ h tk, s₂ = { s with heap := h, toks := tk } → True := fun _ _ _ => trivial
  obtain ⟨hs2, tk2, es2, sub2, tle2⟩ := id k₂
  refine codeAny_forLoop_any (fun m s' => ∃ (i : Nat) (ε₁ : LEnv) (N₁ W₁ : Addr → Prop) (h' : Heap) (tk : Nat), i ≤ ps.length ∧ m = ps.length + 1 - i ∧ s' = { s with heap := h', toks := tk } ∧ ForInv X N W s s₂ wr St env ε₁ N₁ W₁ i h' tk ∧
      forL ev env.scope tgt body (ps.drop i) ε₁ = some (ε', fl)) ?_ (ps.length + 1) ⟨0, ε, (fun b => N b ∨ b ∈ wr), W, s₂.heap, s₂.toks, Nat.zero_le _, rfl, by rw [es2], ⟨k₂.toks, Nat.le_refl _, fun b q _ => .inl q, fun b q => .inr q, fun b q => q.elim .inl fun z => .inr (.inl z), fun b q => .inl q, fun b o _ _ q => q, fun b q _ => q, hst, ?_⟩, by rw [List.drop_zero]; exact h⟩
  · rintro m s' ⟨i, ε₁, N₁, W₁, h', tk, hi, rfl, rfl, V, hf⟩
    have noW : ∀ b, W₁ b → b ∉ wr := fun b z y => by
      rcases V.a4 b z with z | z
      · exact noWs b z y
      · have := wr2 b y; rw [z] at this; cases this
    refine wp_toks_here ?_
    by_cases hlt : i < ps.length
    · refine K.item i _ _ _ hlt V.st fun v h₁ tk₁ hMd hk₁ ht₁ => ?_
      have ht₁ : tk ≤ tk₁ := ht₁
      dsimp only
      refine K.go i v _ _ _ hMd fun h₂ hP hst₂ hk₂ => ?_
      have up₂ : ∀ b o, b ∉ wr → h'.get? b = some o → h₂.get? b = some o := fun b o nb q => hk₂ b o nb (hk₁ b o nb q)
      have e₂ : EnvS X N₁ W₁ h₂ tk₁ env ε₁ := ⟨V.env.toEnvAt.shift ht₁ (fun b o z q => up₂ b o (noW b z) q) (fun x c o hc q => up₂ c o (noW c (V.env.oc x c hc)) q) V.env.nC (fun b o nb q => ⟨nb, up₂ b o (fun z => nb (V.a2 b z)) q⟩) V.env.wn (fun b z => by
        by_cases hb : b ∈ wr
        · exact al _ _ hst₂ b hb
        · obtain ⟨o, ho⟩ := Option.isSome_iff_exists.mp (V.env.nb b z)
          rw [up₂ b o hb ho]; rfl), V.env.oc⟩
      have hdrop : ps.drop i = ps[i] :: ps.drop (i + 1) := List.drop_eq_getElem_cons hlt
      rw [hdrop] at hf
      simp only [forL, Option.bind_eq_some_iff] at hf
      obtain ⟨ε₂, hbind, hf⟩ := hf
      obtain ⟨⟨ε₃, fl₃⟩, hbody, hf⟩ := hf
      have item : ItemIs X N₁ h₂ tk₁ tgt ps[i] v := (items i v h₂ tk₁ ps[i] (fun b => N₁ b ∨ N b ∨ b ∈ wr) hP (List.getElem?_eq_getElem hlt) (Nat.le_trans V.t2 ht₁) (fun b q z => by
        rcases z with z | z | z
        · rcases V.a3 b z with y | y | y
          · exact .inl y
          · exact .inr y
          · rw [y] at q; cases q
        · exact .inl z
        · exact .inr z) fun b o z q => up₂ b o (fun y => z (.inr (.inr y))) (V.kept b o (fun y => z (.inr (.inl (e.wn b y)))) (fun y => z (.inr (.inr y))) q)).less fun b z => .inl z
      refine bindT_sound (s := { s with heap := h₂, toks := tk₁ }) hh e₂.toEnvAt (fun x _ c _ hc => e₂.oc x c hc) item hbind fun s₃ K₃ => ?_
      obtain ⟨h₃, tk₃, rfl, t₃, kp₃, al₃, e₃⟩ := K₃
      have inW₁ : ∀ b, (s₂.heap.get? b).isSome = true → ¬ W b → ¬ W₁ b := fun b q nw z => by
        rcases V.a4 b z with z | z
        · exact nw z
        · rw [z] at q; cases q
      have hs₃ : Sub h₀ h₃ := fun b o q => by
        have nw : ¬ W b := fun z => by rw [hW b z] at q; cases q
        have q1 := hs b o q
        have q2 := k₂.sub b o q1
        have nwr : b ∉ wr := fun z => by rw [hwr b z] at q1; cases q1
        exact kp₃ b o (inW₁ b (by rw [q2]; rfl) nw) (up₂ b o nwr (V.kept b o nw nwr q2))
      have hW₁ : ∀ b, W₁ b → h₀.get? b = none := fun b z => by
        rcases V.a4 b z with z | z
        · exact hW b z
        · cases q : h₀.get? b with
          | none => rfl
          | some o => rw [k₂.sub b o (hs b o q)] at z; cases z
      refine wpAny_mono (S.S A _ { s with heap := h₃, toks := tk₃ } N₁ W₁ env ε₂ body ε₃ fl₃ h₀ hR g hs₃ hW₁ ⟨e₃, e₂.oc⟩ hbody) (fun f s₄ h₄ => ?_) fun _ _ q => q
      have hflow : (fl₃ = .next → f = .next) ∧ (∀ p, fl₃ = .ret p → ∃ v, f = .ret v) := ⟨fun z => by subst z; exact h₄.isNext, fun p z => by subst z; exact h₄.isRet⟩
      obtain ⟨N₂, W₂, h₄', tk₄, b1, b2, b3, rfl, b5, b6, b7, e₄, fl₄⟩ := h₄
      have some₃ : ∀ b, (s₂.heap.get? b).isSome = true → b ∉ wr → (h₃.get? b).isSome = true := fun b q nwr => al₃ b (by
        obtain ⟨o, ho⟩ := Option.isSome_iff_exists.mp (V.alive b q nwr)
        show (h₂.get? b).isSome = true
        rw [up₂ b o nwr ho]; rfl)
      have wr₃ : ∀ b ∈ wr, (h₃.get? b).isSome = true := fun b q => e₃.nb b (V.a2 b q)
      have none₃ : ∀ b, h₃.get? b = none → s₂.heap.get? b = none := fun b q => by
        cases z : s₂.heap.get? b with
        | none => rfl
        | some o =>
          have : (h₃.get? b).isSome = true := by
            by_cases hb : b ∈ wr
            · exact wr₃ b hb
            · exact some₃ b (by rw [z]; rfl) hb
          rw [q] at this; cases this
      have c3 : ∀ b, N₂ b → N b ∨ b ∈ wr ∨ s₂.heap.get? b = none := fun b z => by
        rcases b2 b z with z | z
        · exact V.a3 b z
        · exact .inr (.inr (none₃ b z))
      have c4 : ∀ b, W₂ b → W b ∨ s₂.heap.get? b = none := fun b z => by
        rcases b3 b z with z | z
        · exact V.a4 b z
        · exact .inr (none₃ b z)
      have c1 : ∀ b, N b → ¬ W b → N₂ b := fun b z nw => b1 b (V.a1 b z nw) (inW₁ b (some_of_ks k₂ (e.nb b z)) nw)
      have ckept : ∀ b o, ¬ W b → b ∉ wr → s₂.heap.get? b = some o → h₄'.get? b = some o := fun b o nw nwr q => b6 b o (inW₁ b (by rw [q]; rfl) nw) (kp₃ b o (inW₁ b (by rw [q]; rfl) nw) (up₂ b o nwr (V.kept b o nw nwr q)))
      have calive : ∀ b, (s₂.heap.get? b).isSome = true → b ∉ wr → (h₄'.get? b).isSome = true := fun b q nwr => b7 b (some₃ b q nwr)
      have none₂ : ∀ b, s₂.heap.get? b = none → s.heap.get? b = none := fun b q => none_of_ks k₂ q
      have ctk : tk ≤ tk₄ := Nat.le_trans ht₁ (Nat.le_trans t₃ b5)
      cases fl₃ with
      | next =>
        obtain rfl := hflow.1 rfl
        refine ⟨ps.length + 1 - (i + 1), by omega, i + 1, ε₃, N₂, W₂, h₄', tk₄, hlt, rfl, rfl, ⟨Nat.le_trans V.t1 ctk, Nat.le_trans V.t2 ctk, c1, fun b z => b1 b (V.a2 b z) (fun y => noW b y z), c3, c4, ckept, calive, ?_, e₄⟩, hf⟩
        refine K.frame (i + 1) _ _ hst₂ fun b hb o q => ?_
        have nW₁ : ¬ W₁ b := fun z => by
          rcases V.a4 b z with z | z
          · exact (hfp b hb).1 (e.wn b z)
          · have := (hfp b hb).2; rw [z] at this; cases this
        exact b6 b o nW₁ (kp₃ b o nW₁ q)
      | ret p =>
        obtain ⟨v, rfl⟩ := hflow.2 p rfl
        cases hf
        exact ⟨N₂, W₂, h₄', tk₄, c1, fun b z => (c3 b z).elim .inl fun z => .inr (z.elim (hwr b) (none₂ b)), fun b z => (c4 b z).elim .inl fun z => .inr (none₂ b z), rfl, Nat.le_trans V.t1 ctk,
          fun b o nw q => ckept b o nw (fun z => by rw [hwr b z] at q; cases q) (k₂.sub b o q), fun b q => calive b (some_of_ks k₂ q) (fun z => by rw [hwr b z] at q; cases q), e₄, fl₄⟩
    · have hin : i = ps.length := by omega
      subst hin
      rw [List.drop_length] at hf
      cases hf
      refine K.done _ _ _ V.st fun h₁ tk₁ hk₁ ht₁ => ?_
      have ht₁ : tk ≤ tk₁ := ht₁
      dsimp only
      refine wpAny_execs_nil ?_
      refine ⟨fun b => N₁ b ∧ b ∉ wr, W₁, h₁, tk₁, fun b z nw => ⟨V.a1 b z nw, fun y => by have := e.nb b z; rw [hwr b y] at this; cases this⟩, fun b z => (V.a3 b z.1).elim .inl fun y => .inr (y.elim (hwr b) (fun q => none_of_ks k₂ q)), fun b z => (V.a4 b z).elim .inl fun q => .inr (none_of_ks k₂ q), rfl,
        Nat.le_trans V.t1 ht₁, fun b o nw q => ?_, fun b q => ?_, ⟨?_, V.env.oc⟩, trivial⟩
      · have nwr : b ∉ wr := fun z => by rw [hwr b z] at q; cases q
        exact hk₁ b o nwr (V.kept b o nw nwr (k₂.sub b o q))
      · have nwr : b ∉ wr := fun z => by rw [hwr b z] at q; cases q
        obtain ⟨o, ho⟩ := Option.isSome_iff_exists.mp (V.alive b (some_of_ks k₂ q) nwr)
        rw [hk₁ b o nwr ho]; rfl
      · exact V.env.toEnvAt.shift ht₁ (fun b o z q => hk₁ b o (noW b z) q) (fun x c o hc q => hk₁ c o (noW c (V.env.oc x c hc)) q) (fun x c hc => ⟨V.env.nC x c hc, noW c (V.env.oc x c hc)⟩) (fun b o nb q => ⟨fun z => nb z.1, hk₁ b o (fun z => nb (V.a2 b z)) q⟩) (fun b z => ⟨V.env.wn b z, noW b z⟩) fun b z => by
          obtain ⟨o, ho⟩ := Option.isSome_iff_exists.mp (V.env.nb b z.1)
          rw [hk₁ b o z.2 ho]; rfl
  · exact ⟨e.toEnvAt.shift k₂.toks (fun b o _ q => k₂.sub b o q) (fun x c o _ q => k₂.sub c o q) (fun x c hc => .inl (e.nC x c hc)) (fun b o nb q => ⟨fun z => z.elim nb (fun y => by rw [hwr b y] at q; cases q), k₂.sub b o q⟩) (fun b z => .inl (e.wn b z)) fun b z => z.elim (fun z => some_of_ks k₂ (e.nb b z)) fun z => wr2 b z, e.oc⟩

theorem for_sound (XO : XOk prog w X) (S : Snd prog w X G mg mb ev n) (hR : Room n A) {iter : Expr} {body : List Stmt} {pos : Pos} {ps : List PV} (g : Gnd X G mg mb h₀) (hs : Sub h₀ s.heap) (hW : ∀ b, W b → h₀.get? b = none) (e : EnvS X N W s.heap s.toks env ε)
    (hi : iterV G ev env.scope ε tgt iter = some ps) (h : forL ev env.scope tgt body ps ε = some (ε', fl)) : wpAny (model prog w) A (exec (.For tgt iter body [] pos) env) (fun f s' => Ends X N W s env ε' fl f s') E s :=
  wpAny_For (iter_sound XO S hR (g.keeps XO.baseK hs) e.toEnvAt hi fun s₂ it k₂ T => codeAny_mono (for_loop S hR g hs hW e k₂ T h (fun x s' => cameBackBy (model prog w) A env E x s')) fun r s' q => by cases r <;> exact q) (fold_pure (iter_notBad S hi))
end
end Mine
end

section
set_option maxHeartbeats 1000000
open PySem PySem.Calls PyProof.Rows PySem.Spec PySem.Builtin PySem.Builtin.Str PySem.W
namespace Mine

section
variable {prog : Program} {w : World} {X : ObjW} {G : GCtx} {mg mb : Str → Option Value} {ev : Ev} {n : Nat}
variable {A : Around} {E : Value → Shared → Prop} {s s₁ s₂ : Shared} {N W : Addr → Prop} {env : Env} {ε ε' : LEnv} {tgt : Expr} {h₀ : Heap} {fl : Fl}

theorem thaw_env {h : Heap} {tk : Nat} {x : Str} {l : List PV} (e : EnvS X N W h tk env ε) (ho : ε.own = some (x, l)) :
    ∃ a vs nD, VarAt h env x (.ref a) ∧ (x == ("__debug__" : Str)) = false ∧ W a ∧ h.get? a = some (seqO "list" vs nD) ∧ l.length ≤ big ∧ RelVs X (fun b => N b ∧ b ≠ a) h tk l vs ∧ EnvS X (fun b => N b ∧ b ≠ a) (fun b => W b ∧ b ≠ a) h tk env (thaw ε) := by
  obtain ⟨k, kd, a, nD, vs, b1, b2, b3, b4, b5⟩ := e.own x l ho
  have less : ∀ b, (N b ∧ b ≠ a) → N b := fun _ z => z.1
  have nLa : env.locals ≠ a := by
    obtain ⟨m, hn⟩ := e.ns
    exact Ne.symm (list_ne_ns hn b3)
  have nCa : ∀ y c, env.cells.lookup y = some c → c ≠ a := fun y c hc => by
    obtain ⟨c', v, hc', hcell⟩ := e.cell y (e.ck y c hc)
    rw [hc] at hc'; cases hc'
    exact Ne.symm (list_ne_cell hcell b3)
  have hd : ∀ y q, (thaw ε).vars.lookup y = some q → (y = x ∧ q = .lst l) ∨ (y ≠ x ∧ ε.vars.lookup y = some q) := fun y q hq => by
    have : (thaw ε).vars = upd x (.lst l) ε.vars := by unfold thaw; rw [ho]
    rw [this, lookup_upd] at hq
    by_cases hyx : y = x
    · rw [if_pos hyx] at hq; cases hq; exact .inl ⟨hyx, rfl⟩
    · rw [if_neg hyx] at hq; exact .inr ⟨hyx, hq⟩
  have hno : (thaw ε).own = none := by unfold thaw; rw [ho]
  refine ⟨a, vs, nD, b1, kd, b2, b3, b4, b5.less less, ⟨?_, fun y c hc => ⟨e.oc y c hc, nCa y c hc⟩⟩⟩
  exact { e.toEnvAt with
    wn := fun b z => ⟨e.wn b z.1, z.2⟩
    nL := ⟨e.nL, nLa⟩
    nC := fun y c hc => ⟨e.nC y c hc, nCa y c hc⟩
    nb := fun b z => e.nb b z.1
    vars := fun y q hq => by
      rcases hd y q hq with ⟨rfl, rfl⟩ | ⟨_, hq⟩
      · exact ⟨.ref a, b1, .lst l a vs nD (fun z => z.2 rfl) b3 b4 (b5.less less)⟩
      · obtain ⟨v, h1, h2⟩ := e.vars y q hq
        exact ⟨v, h1, h2.less less⟩
    own := fun y l' hl' => by rw [hno] at hl'; cases hl' }

theorem forOwn_sound (XO : XOk prog w X) (S : Snd prog w X G mg mb ev n) (hR : Room n A) {x : Str} {px pos : Pos} {l : List PV} {body : List Stmt} (g : Gnd X G mg mb h₀) (hs : Sub h₀ s.heap) (hW : ∀ b, W b → h₀.get? b = none) (e : EnvS X N W s.heap s.toks env ε) (ho : ε.own = some (x, l))
    (h : forL ev env.scope tgt body l (thaw ε) = some (ε', fl)) : wpAny (model prog w) A (exec (.For tgt (.Name x px) body [] pos) env) (fun f s' => Ends X N W s env ε' fl f s') E s := by
  obtain ⟨a, vs, nD, hv, hd, hWa, hget, hl, hr, e'⟩ := thaw_env e ho
  refine wpAny_For (wpAny_Name (load_var e.kind hv ?_) hd) (fun _ => rfl)
  refine turn_list (tgt := tgt) (N := fun b => N b ∧ b ≠ a) e'.nb (KS.refl s) (fun z => z.2 rfl) hget hr fun s₂ it k₂ T => ?_
  refine codeAny_mono (for_loop S hR g hs (fun b z => hW b z.1) e' k₂ T h (fun x s' => cameBackBy (model prog w) A env E x s')) fun r s' q => ?_
  cases r with
  | ok f => exact Ends.mono (fun b z => z.1) (fun b z => z.1) (fun b z nw => ⟨z, fun y => nw (y ▸ hWa)⟩) q
  | error x => exact q

theorem retOwn_sound {x : Str} {px pos : Pos} {l : List PV} (e : EnvS X N W s.heap s.toks env ε) (ho : ε.own = some (x, l)) :
    wpAny (model prog w) A (exec (.Return (some (.Name x px)) pos) env) (fun f s' => Ends X N W s env (thaw ε) (.ret (.lst l)) f s') E s := by
  obtain ⟨a, vs, nD, hv, hd, hWa, hget, hl, hr, e'⟩ := thaw_env e ho
  refine wpAny_Return_some (wpAny_Name (load_var e.kind hv ?_) hd)
  exact ⟨fun b => N b ∧ b ≠ a, fun b => W b ∧ b ≠ a, s.heap, s.toks, fun b z nw => ⟨z, fun y => nw (y ▸ hWa)⟩, fun b z => .inl z.1, fun b z => .inl z.1, rfl, Nat.le_refl _, fun _ _ _ q => q, fun _ q => q, e', .lst l a vs nD (fun z => z.2 rfl) hget hl hr⟩

/-- the owned list has been changed in its place -/
theorem own_changed {x : Str} {l l' : List PV} {a : Addr} {vs vs' : List Value} {nD nD' : Nat} {h' : Heap} (e : EnvS X N W s.heap s.toks env ε) (ho : ε.own = some (x, l)) (hv : VarAt s.heap env x (.ref a)) (hWa : W a) (hget : s.heap.get? a = some (seqO "list" vs nD)) (hs : Heap.SameBut a s.heap h')
    (hg' : h'.get? a = some (seqO "list" vs' nD')) (hl' : l'.length ≤ big) (hr' : RelVs X N s.heap s.toks l' vs') : Ends X N W s env { ε with own := some (x, l') } .next .next { s with heap := h' } := by
  obtain ⟨k, kd, _⟩ := e.own x l ho
  have up : ∀ b o, b ≠ a → s.heap.get? b = some o → h'.get? b = some o := fun b o nb q => hs.extBut b o nb q
  have nLa : env.locals ≠ a := by
    obtain ⟨m, hn⟩ := e.ns
    exact Ne.symm (list_ne_ns hn hget)
  have nCa : ∀ y c, env.cells.lookup y = some c → c ≠ a := fun y c hc => by
    obtain ⟨c', v, hc', hcell⟩ := e.cell y (e.ck y c hc)
    rw [hc] at hc'; cases hc'
    exact Ne.symm (list_ne_cell hcell hget)
  have al : ∀ b, (s.heap.get? b).isSome = true → (h'.get? b).isSome = true := fun b q => by
    by_cases hb : b = a
    · rw [hb, hg']; rfl
    · obtain ⟨o, ho⟩ := Option.isSome_iff_exists.mp q
      rw [up b o hb ho]; rfl
  have hr : ∀ b o, ¬ N b → s.heap.get? b = some o → ¬ N b ∧ h'.get? b = some o := fun b o nb q => ⟨nb, up b o (fun z => nb (z ▸ e.wn a hWa)) q⟩
  have va : ∀ y v, VarAt s.heap env y v → VarAt h' env y v := fun y v z => by
    rcases z with ⟨k, m, ⟨o, es, ep, ho, r⟩, z⟩ | ⟨k, c, hc, o, ho, z⟩
    · exact .inl ⟨k, m, ⟨o, es, ep, up _ o nLa ho, r⟩, z⟩
    · exact .inr ⟨k, c, hc, o, up c o (nCa y c hc) ho, z⟩
  refine ⟨N, W, h', s.toks, fun _ q _ => q, fun _ q => .inl q, fun _ q => .inl q, rfl, Nat.le_refl _, fun b o nw q => up b o (fun z => nw (z ▸ hWa)) q, al, ⟨?_, e.oc⟩, trivial⟩
  exact { e.toEnvAt with
    ns := by
      obtain ⟨m, o, es, ep, ho, r⟩ := e.ns
      exact ⟨m, o, es, ep, up _ o nLa ho, r⟩
    cell := fun y ky => by
      obtain ⟨c, v, hc, o, ho, r⟩ := e.cell y ky
      exact ⟨c, v, hc, o, up c o (nCa y c hc) ho, r⟩
    nb := fun b z => al b (e.nb b z)
    vars := fun y q hq => by
      obtain ⟨v, h1, h2⟩ := e.vars y q hq
      exact ⟨v, va y v h1, h2.tr hr (Nat.le_refl _)⟩
    own := fun y m hm => by
      cases hm
      exact ⟨k, kd, a, nD', vs', va _ _ hv, hWa, hg', hl', hr'.tr hr (Nat.le_refl _)⟩ }

theorem interactive_no (e : EnvAt X N W s.heap s.toks env ε) : interactive env = false := by
  unfold interactive
  rw [e.kind]; rfl

theorem append_sound (XO : XOk prog w X) (S : Snd prog w X G mg mb ev n) (hR : Room n A) {x m : Str} {px ap pos spos : Pos} {a₀ : Expr} {l : List PV} {p : PV} (g : Gnd X G mg mb s.heap) (e : EnvS X N W s.heap s.toks env ε) (ho : ε.own = some (x, l)) (hm : mkOf m = some .append) (hline : (ap.endLine == pos.line) = true) (hll : l.length ≤ lim)
    (hp : ev.E env.scope ε a₀ = some p) : wpAny (model prog w) A (exec (.Expr (.Call (.Attribute (.Name x px) m ap) [a₀] [] pos) spos) env) (fun f s' => Ends X N W s env { ε with own := some (x, l ++ [p]) } .next f s') E s := by
  obtain ⟨k, kd, a, nD, vs, b1, b2, b3, b4, b5⟩ := e.own x l ho
  have hm := mkOf_name hm
  subst hm
  have hst : starEach [a₀] env = [(false, eval a₀ env)] := by rw [starEach_cons (notBad S hp)]; rfl
  have el : lim = 100000 := rfl
  have eb : big = 1000000 := rfl
  refine wpAny_Expr ?_ (interactive_no e.toEnvAt) rfl
  refine method_any (by simp) (by rw [hst]; rfl) (by rw [hline]; rfl) (wpAny_Name (load_var e.kind b1 fun pl => ?_) kd)
  refine getMethod_list_append b3 rfl rfl ?_
  rw [hst]
  refine callWith_builtin rfl (evalArgs_plain (spliced_cons (wpAny_mono (S.E A E s N W env ε a₀ p hR g e.toEnvAt hp) (fun v s₂ h₂ => spliced_nil ?_) fun _ _ q => q)))
  obtain ⟨k₂, r₂⟩ := h₂
  have hlen := b5.length
  refine append_at (its := vs.toArray) (n := nD) (k₂.sub _ _ b3) (fun h₆ hs₆ hD₆ => ?_) (by rw [List.size_toArray, sizeLine_eq]; omega)
  refine Ends.from e.nb k₂ (own_changed (e.ks k₂) ho (b1.keeps k₂.sub) b2 (k₂.sub _ _ b3) hs₆ (vs' := vs ++ [v]) (nD' := nD + 1) (by rw [hD₆]; simp) (by simp; omega) ((b5.ks k₂).snoc r₂))

theorem fits_of {i : Int} {m k : Nat} (h : idxAt m i = some k) : Builtin.List.listFitsIndex i = true := by
  obtain ⟨_, h1, h2, _⟩ := idxAt_spec h
  unfold Builtin.List.listFitsIndex
  simp only [Bool.and_eq_true, decide_eq_true_eq]
  omega

theorem delete_sound (XO : XOk prog w X) (S : Snd prog w X G mg mb ev n) (hR : Room n A) {x : Str} {px sp pos : Pos} {i₀ : Expr} {l l' : List PV} {i : Int} (g : Gnd X G mg mb s.heap) (e : EnvS X N W s.heap s.toks env ε) (ho : ε.own = some (x, l))
    (hp : ev.E env.scope ε i₀ = some (.int i)) (hd : delAt l i = some l') : wpAny (model prog w) A (exec (.Delete [.Subscript (.Name x px) i₀ sp] pos) env) (fun f s' => Ends X N W s env { ε with own := some (x, l') } .next f s') E s := by
  obtain ⟨k, kd, a, nD, vs, b1, b2, b3, b4, b5⟩ := e.own x l ho
  unfold delAt at hd
  rw [Option.map_eq_some_iff] at hd
  obtain ⟨j, hj, rfl⟩ := hd
  have eb : big = 1000000 := rfl
  have hlen := b5.length
  refine wpAny_Delete (wpAny_deleteEach_cons (wpAny_delete_Subscript (wpAny_Name (load_var e.kind b1 ?_) kd)))
  refine wpAny_mono (S.E A E s N W env ε i₀ _ hR g e.toEnvAt hp) (fun v s₂ h₂ => ?_) fun _ _ q => q
  obtain ⟨k₂, r₂⟩ := h₂
  cases r₂
  refine delItem_at (its := vs.toArray) (n := nD) (k₂.sub _ _ b3) (fits_of hj) (by rw [List.size_toArray, ← hlen]; exact (idxAt_spec hj).1) (fun h' hs' hD' => wpAny_deleteEach_nil ?_) (by rw [List.size_toArray, sizeLine_eq]; omega)
  refine Ends.from e.nb k₂ (own_changed (e.ks k₂) ho (b1.keeps k₂.sub) b2 (k₂.sub _ _ b3) hs' (vs' := vs.eraseIdx j) (nD' := nD + 1) hD' (Nat.le_trans (List.length_eraseIdx_le ..) b4) ((b5.ks k₂).eraseIdx j))
end
end Mine
end

section
set_option maxHeartbeats 1000000
open PySem PySem.Calls PyProof.Rows PySem.Spec PySem.Builtin PySem.Builtin.Str PySem.W
namespace Mine

section
variable {prog : Program} {w : World} {X : ObjW} {G : GCtx} {mg mb : Str → Option Value} {ev : Ev} {n : Nat}
variable {A : Around} {E : Value → Shared → Prop} {s s₁ s₂ : Shared} {N W : Addr → Prop} {env : Env} {ε ε' : LEnv} {tgt : Expr} {h₀ : Heap} {fl : Fl}

theorem isNm_is {x : Str} {e : Expr} (h : isNm x e = true) : ∃ px, e = .Name x px := by
  cases e with
  | Name y px => obtain rfl := beq_iff_eq.mp h; exact ⟨px, rfl⟩
  | _ => exact no_ft h

theorem forS_sound (XO : XOk prog w X) (S : Snd prog w X G mg mb ev n) (hR : Room n A) {iter : Expr} {body : List Stmt} {pos : Pos} (g : Gnd X G mg mb h₀) (hs : Sub h₀ s.heap) (hW : ∀ b, W b → h₀.get? b = none) (e : EnvS X N W s.heap s.toks env ε) (h : forS G ev env.scope ε tgt iter body = some (ε', fl)) :
    wpAny (model prog w) A (exec (.For tgt iter body [] pos) env) (fun f s' => Ends X N W s env ε' fl f s') E s := by
  have gen : ((iterV G ev env.scope ε tgt iter).bind fun ps => forL ev env.scope tgt body ps ε) = some (ε', fl) → wpAny (model prog w) A (exec (.For tgt iter body [] pos) env) (fun f s' => Ends X N W s env ε' fl f s') E s := fun h => by
    obtain ⟨ps, hi, h⟩ := Option.bind_eq_some_iff.mp h
    exact for_sound XO S hR g hs hW e hi h
  unfold forS at h
  cases ho : ε.own with
  | none => rw [ho] at h; exact gen h
  | some yl =>
    rw [ho] at h
    by_cases c : isNm yl.1 iter = true
    · obtain ⟨px, rfl⟩ := isNm_is c
      exact forOwn_sound XO S hR g hs hW e ho ((if_pos c).symm.trans h)
    · exact gen ((if_neg c).symm.trans h)

theorem retS_sound (XO : XOk prog w X) (S : Snd prog w X G mg mb ev n) (hR : Room n A) {ex : Expr} {pos : Pos} (g : Gnd X G mg mb s.heap) (e : EnvS X N W s.heap s.toks env ε) (h : retS ev env.scope ε ex = some (ε', fl)) :
    wpAny (model prog w) A (exec (.Return (some ex) pos) env) (fun f s' => Ends X N W s env ε' fl f s') E s := by
  have gen : ((ev.E env.scope ε ex).map fun p => (ε, Fl.ret p)) = some (ε', fl) → wpAny (model prog w) A (exec (.Return (some ex) pos) env) (fun f s' => Ends X N W s env ε' fl f s') E s := fun h => by
    obtain ⟨p, hp, e1⟩ := Option.map_eq_some_iff.mp h
    cases e1
    refine wpAny_Return_some (wpAny_mono (S.E A E s N W env ε ex p hR g e.toEnvAt hp) (fun v s₁ h₁ => ?_) fun _ _ q => q)
    exact Ends.from e.nb h₁.1 ⟨N, W, s₁.heap, s₁.toks, fun _ q _ => q, fun _ q => .inl q, fun _ q => .inl q, rfl, Nat.le_refl _, fun _ _ _ q => q, fun _ q => q, e.ks h₁.1, h₁.2⟩
  unfold retS at h
  cases ho : ε.own with
  | none => rw [ho] at h; exact gen h
  | some yl =>
    rw [ho] at h
    by_cases c : isNm yl.1 ex = true
    · have h := Option.some.inj ((if_pos c).symm.trans h)
      cases h
      obtain ⟨px, rfl⟩ := isNm_is c
      exact retOwn_sound e ho
    · exact gen ((if_neg c).symm.trans h)

theorem appS_sound (XO : XOk prog w X) (S : Snd prog w X G mg mb ev n) (hR : Room n A) {ex : Expr} {pos : Pos} (g : Gnd X G mg mb s.heap) (e : EnvS X N W s.heap s.toks env ε) (h : appS ev env.scope ε ex = some ε') :
    wpAny (model prog w) A (exec (.Expr ex pos) env) (fun f s' => Ends X N W s env ε' .next f s') E s := by
  cases ex with
  | Call f args kws pc => cases f with
    | Attribute o m ap => cases kws with
      | nil =>
        obtain ⟨c, h⟩ := if_some2 h
        rw [Bool.and_eq_true] at c
        obtain ⟨yl, ho, h⟩ := Option.bind_eq_some_iff.mp h
        obtain ⟨c2, h⟩ := if_some2 h
        rw [Bool.and_eq_true] at c2
        obtain ⟨a, ha, h⟩ := Option.bind_eq_some_iff.mp h
        obtain ⟨p, hp, h'⟩ := Option.map_eq_some_iff.mp h
        obtain rfl := one_some ha
        obtain ⟨px, rfl⟩ := isNm_is c2.1
        subst h'
        exact append_sound XO S hR g e ho (beq_iff_eq.mp c.1) c.2 (of_decide_eq_true c2.2) hp
      | cons => exact no_some h
    | _ => exact no_some h
  | _ => exact no_some h

theorem delS_sound (XO : XOk prog w X) (S : Snd prog w X G mg mb ev n) (hR : Room n A) {t : Expr} {pos : Pos} (g : Gnd X G mg mb s.heap) (e : EnvS X N W s.heap s.toks env ε) (h : delS ev env.scope ε t = some ε') :
    wpAny (model prog w) A (exec (.Delete [t] pos) env) (fun f s' => Ends X N W s env ε' .next f s') E s := by
  cases t with
  | Subscript v i sp =>
    obtain ⟨yl, ho, h⟩ := Option.bind_eq_some_iff.mp h
    obtain ⟨c, h⟩ := if_some2 h
    obtain ⟨q, hq, h⟩ := Option.bind_eq_some_iff.mp h
    obtain ⟨px, rfl⟩ := isNm_is c
    cases q with
    | int k =>
      obtain ⟨l', hd, h'⟩ := Option.map_eq_some_iff.mp h
      subst h'
      exact delete_sound XO S hR g e ho hq hd
    | _ => exact no_some h
  | _ => exact no_some h

theorem next_of {r : Option LEnv} {c : LEnv × Fl} (h : (r.map fun ε => (ε, Fl.next)) = some c) : r = some c.1 ∧ c.2 = .next := by
  obtain ⟨ε₁, h', e1⟩ := Option.map_eq_some_iff.mp h
  subst e1
  exact ⟨h', rfl⟩

theorem stmtV_sound (XO : XOk prog w X) (S : Snd prog w X G mg mb ev n) (hR : Room n A) {st : Stmt} {c : LEnv × Fl} (g : Gnd X G mg mb h₀) (hs : Sub h₀ s.heap) (hW : ∀ b, W b → h₀.get? b = none) (e : EnvS X N W s.heap s.toks env ε) (h : stmtV G ev env.scope ε st = some c) :
    wpAny (model prog w) A (exec st env) (fun f s' => Ends X N W s env c.1 c.2 f s') E s := by
  have gs := g.keeps XO.baseK hs
  cases st with
  | Assign ts v pos =>
    obtain ⟨t, ht, h⟩ := Option.bind_eq_some_iff.mp h
    obtain rfl := one_some ht
    rw [(next_of h).2]
    exact assignV_sound XO S hR gs e (next_of h).1
  | AugAssign t op v pos =>
    rw [(next_of h).2]
    have h := (next_of h).1
    cases t with
    | Name x px =>
      obtain ⟨p, hp, h⟩ := Option.bind_eq_some_iff.mp h
      obtain ⟨q, hq, h⟩ := Option.bind_eq_some_iff.mp h
      obtain ⟨r, hr, h⟩ := Option.bind_eq_some_iff.mp h
      exact aug_sound XO S hR gs e hp hq hr h
    | _ => exact no_some h
  | «If» t a b pos =>
    obtain ⟨d, hc, h⟩ := Option.bind_eq_some_iff.mp h
    exact if_sound XO S hR g hs hW e hc h
  | While t body els pos => cases els with
    | nil => exact while_sound XO S hR g hs hW e h
    | cons => exact no_some h
  | For tgt iter body els pos => cases els with
    | nil => exact forS_sound XO S hR g hs hW e h
    | cons => exact no_some h
  | Return o pos => cases o with
    | some ex => exact retS_sound XO S hR gs e h
    | none => exact no_some h
  | Expr ex pos =>
    rw [(next_of h).2]
    exact appS_sound XO S hR gs e (next_of h).1
  | Delete ts pos =>
    obtain ⟨t, ht, h⟩ := Option.bind_eq_some_iff.mp h
    obtain rfl := one_some ht
    rw [(next_of h).2]
    exact delS_sound XO S hR gs e (next_of h).1
  | Assert t m pos =>
    obtain ⟨d, hc, h⟩ := Option.bind_eq_some_iff.mp h
    obtain ⟨hd, rfl⟩ := if_some h
    refine wpAny_Assert_holds (wpAny_mono (S.T A E s N W env ε _ d hR gs e.toEnvAt hc) (fun d' s₁ h₁ => ?_) fun _ _ q => q)
    exact ⟨h₁.2.trans hd, Ends.from e.nb h₁.1 (Ends.stay (e.ks h₁.1))⟩
  | _ => exact no_some h

theorem stepS_sound (XO : XOk prog w X) (S : Snd prog w X G mg mb ev n) (hR : Room n A) {ss : List Stmt} (g : Gnd X G mg mb h₀) (hs : Sub h₀ s.heap) (hW : ∀ b, W b → h₀.get? b = none) (e : EnvS X N W s.heap s.toks env ε) (h : stepS G ev env.scope ε ss = some (ε', fl)) :
    wpAny (model prog w) A (execs ss env) (fun f s' => Ends X N W s env ε' fl f s') E s := by
  cases ss with
  | nil =>
    cases h
    exact wpAny_execs_nil (Ends.stay e)
  | cons st rest =>
    obtain ⟨⟨ε₁, fl₁⟩, h1, h⟩ := Option.bind_eq_some_iff.mp h
    refine wpAny_execs_cons (wpAny_mono (stmtV_sound XO S hR g hs hW e h1) (fun f s₁ h₁ => ?_) fun _ _ q => q)
    cases fl₁ with
    | next =>
      have := h₁.isNext
      subst this
      exact Ends.go S hR g hs hW e.nb h₁ (KS.refl _) h fun f s₂ h₂ => h₂
    | ret p =>
      obtain ⟨v, rfl⟩ := h₁.isRet
      cases h
      exact h₁

theorem fm_zip : ∀ (zs ys : List (Str × Value)), (zs.map (·.1)).Nodup → (∀ y ∈ ys, y ∈ zs) → (ys.map (·.1)).filterMap (fun n => (zs.lookup n).map (n, ·)) = ys
  | zs, [], _, _ => rfl
  | zs, (n, v) :: r, hn, h => by
    rw [List.map_cons, List.filterMap_cons, lookup_of_nodup hn (h (n, v) (List.mem_cons_self ..))]
    simp only [Option.map_some]
    rw [fm_zip zs r hn fun y hy => h y (List.mem_cons_of_mem _ hy)]

theorem bind_plain {x : Str} {args : List Arg} {body : List Stmt} {scope : Scope} {pm code doc : Value} {vals : List Value} (hn : (args.map (·.arg)).Nodup) (hl : (args.map (·.arg)).length = vals.length) :
    bindArgs (docDef x ⟨[], args, none, [], [], none, []⟩ body scope pm code doc) ⟨vals, []⟩ = pure ((args.map (·.arg)).zip vals) := by
  have hk : (((args.map (·.arg)).zip vals).map (·.1)) = args.map (·.arg) := List.map_fst_zip (Nat.le_of_eq hl)
  have hfm := fm_zip ((args.map (·.arg)).zip vals) ((args.map (·.arg)).zip vals) (by rw [hk]; exact hn) fun _ q => q
  rw [hk] at hfm
  have hmiss : (args.map (·.arg)).filter (fun n => (((args.map (·.arg)).zip vals).lookup n).isNone) = [] := by
    rw [List.filter_eq_nil_iff]
    intro a ha
    obtain ⟨v, hv⟩ : ∃ v, (a, v) ∈ (args.map (·.arg)).zip vals := by
      rw [← hk] at ha
      obtain ⟨⟨a', v⟩, h1, rfl⟩ := List.mem_map.mp ha
      exact ⟨v, h1⟩
    rw [lookup_of_nodup (by rw [hk]; exact hn) hv]
    simp
  have e0 : seqItems? Value.none = pure none := rfl
  have hgt : ¬ ((args.map (·.arg)).length < vals.length) := by omega
  unfold bindArgs docDef
  simp only [List.map_nil, List.nil_append, List.forIn_nil, List.append_nil, pure_bind, e0, Option.getD_none, List.length_nil, List.drop_nil, Nat.sub_zero, List.take_length, hmiss, List.zip_nil_right, hfm, List.isEmpty_nil, Bool.not_true, Bool.false_eq_true, if_false, gt_iff_lt, hgt, decide_false, Bool.false_and]
end
end Mine
end

section
set_option maxHeartbeats 1000000
open PySem PySem.Calls PyProof.Rows PySem.Spec PySem.Builtin PySem.Builtin.Str PySem.W
namespace Mine

section
variable {prog : Program} {w : World} {X : ObjW} {G : GCtx} {mg mb : Str → Option Value} {ev : Ev} {n : Nat}
variable {A : Around} {E : Value → Shared → Prop} {s s₁ s₂ : Shared} {N W : Addr → Prop} {env : Env} {ε ε' : LEnv} {tgt : Expr} {h₀ : Heap} {fl : Fl}

theorem newEnv_pos {M : Model} {A : Around} {E : Value → Shared → Prop} {s : Shared} {scope : Scope} {globals : Addr} {binds : List (Str × Value)} {qual : Str} {func : Option Addr} {code : Value} {builtins : Addr} {Q : Env → Shared → Prop}
    (hk : scope.kind = .function) (hp : 0 < s.toks ∨ ∃ n v, binds = [(n, v)] ∧ scope.names.lookup n = some .local)
    (hkind : ∀ x ∈ binds, scope.names.lookup x.1 = some .local ∨ (scope.names.lookup x.1 = some .cell ∧ ((cellsFrom (s.heap.objs.size + 1) scope.names []).lookup x.1).isSome = true))
    (hQ : ∀ env, env = newEnv scope s.heap.objs.size globals (cellsFrom (s.heap.objs.size + 1) scope.names []) qual func code none builtins →
      ∀ s', InCallC s env.locals (bindL env.kindOf binds fun _ => none) env.cells (bindC env.kindOf binds fun _ => none) s' → s.toks ≤ s'.toks → 0 < s'.toks → Q env s') :
    wpAny M A (newFunctionEnv scope globals [] binds qual func code none builtins) Q E s := by
  rcases hp with hp | ⟨n, v, rfl, hl⟩
  · exact wp_toks_here (wpAny_newFunctionEnv_cells hk hkind fun env he s' x ht => hQ env he s' x ht (Nat.lt_of_lt_of_le hp ht))
  · simp only [newFunctionEnv, Option.isSome_none, Bool.false_eq_true, if_false]
    refine wpAny_bind (wpAny_alloc ?_)
    refine wpAny_bind (wpAny_layCells _ (fun name kind cells => by cases hkc : kind == NameKind.cell <;> simp [hkc]) _ _ _ _ ?_)
    have ok := cellsFrom_ok scope.names (s.heap.push { cls := .type "frame", data := .dict #[] }) (s.heap.objs.size + 1) [] ⟨fun _ _ hm => (nomatch hm), List.Pairwise.nil⟩ (by rw [Heap.size_push]; exact Nat.le_refl _)
    rw [Heap.size_push] at ok
    rw [show ({ s with heap := s.heap.push { cls := .type "frame", data := .dict #[] } } : Shared).heap.objs.size = s.heap.objs.size + 1 from Heap.size_push ..]
    have x : InCallC s (newEnv scope s.heap.objs.size globals (cellsFrom (s.heap.objs.size + 1) scope.names []) qual func code none builtins).locals (fun _ => none) (newEnv scope s.heap.objs.size globals (cellsFrom (s.heap.objs.size + 1) scope.names []) qual func code none builtins).cells (fun _ => none)
        { s with heap := pushCells (s.heap.push { cls := .type "frame", data := .dict #[] }) scope.names } :=
      ⟨⟨⟨_, _, rfl⟩, (Heap.Ns.new s.heap (.type "frame")).keeps (pushCells_keeps _ _), fun b o e => pushCells_keeps _ _ b o (Heap.get?_push_of_some _ e), Nat.le_refl _⟩,
        fun n c hc => (ok.empty n c (mem_of_lookup hc)).1, ok.apart, fun n c hm => (ok.empty n c hm).2⟩
    refine wpAny_bind ?_
    rw [List.forIn_cons]
    refine wpAny_bind (wpAny_bind (wpAny_storeName_local (env := newEnv scope s.heap.objs.size globals (cellsFrom (s.heap.objs.size + 1) scope.names []) qual func code none builtins) hl x.toInCall.ns (fun h' hn' hs' => ?_) (by
      show (scope.kind == .class || (scope.kind == .module && _)) = false
      rw [hk]; rfl)))
    refine wpAny_pure ?_
    dsimp only
    rw [List.forIn_nil]
    refine wpAny_pure (wpAny_pure (hQ _ rfl _ ⟨⟨⟨h', _, rfl⟩, ?_, fun b o e => ?_, Nat.le_refl _⟩, fun k c hc => ?_, x.apart, x.above⟩ (Nat.le_succ _) (Nat.succ_pos _)))
    · unfold bindL bindL
      rw [if_pos (show (newEnv scope s.heap.objs.size globals (cellsFrom (s.heap.objs.size + 1) scope.names []) qual func code none builtins).kindOf n = some .local from hl)]
      exact hn'
    · exact hs'.extBut b o (Nat.ne_of_lt (Heap.lt_size e)) (x.toInCall.keep b o e)
    · unfold bindC bindC
      rw [if_pos (show (newEnv scope s.heap.objs.size globals (cellsFrom (s.heap.objs.size + 1) scope.names []) qual func code none builtins).kindOf n = some .local from hl)]
      exact (x.cell k c hc).sameBut hs' (Nat.ne_of_gt (x.above k c (mem_of_lookup hc)))

theorem codeAny_call_cellsT {R : Result → Shared → Prop} {a : Addr} {o : Obj} {fd : FuncData} {body : List Stmt} {vals : List Value} {binds : List (Str × Value)}
    (hroom : A.depth < recursionLimit) (ho : s.heap.get? a = some o) (hdata : o.data = .func fd) (hlim : s.heap.NoLimit) (hcd : s.heap.CodeRec fd.code fd.qualname)
    (hbody : fd.body = .stmts body) (hbind : bindArgs fd ⟨vals, []⟩ = pure binds) (hclo : fd.closure = [])
    (hkind : ∀ x ∈ binds, fd.scope.names.lookup x.1 = some .local ∨ (fd.scope.names.lookup x.1 = some .cell ∧ ((cellsFrom (s.heap.objs.size + 1) fd.scope.names []).lookup x.1).isSome = true))
    (hco : fd.scope.isCoroutine = false) (hgen : fd.scope.isGenerator = false) (hk : fd.scope.kind = .function) (hp : 0 < s.toks ∨ ∃ n v, binds = [(n, v)] ∧ fd.scope.names.lookup n = some .local)
    (h : ∀ s₁, s.toks ≤ s₁.toks → 0 < s₁.toks → InCallC s (callEnvC fd s.heap.objs.size a).locals (bindL (callEnvC fd s.heap.objs.size a).kindOf binds fun _ => none) (callEnvC fd s.heap.objs.size a).cells
        (bindC (callEnvC fd s.heap.objs.size a).kindOf binds fun _ => none) s₁ →
      wpAny (model prog w) (A.deeper (callEnvC fd s.heap.objs.size a)) (execs body (callEnvC fd s.heap.objs.size a)) (fun f s' => R (.ok (.ret (match f with | .ret v => v | _ => .none))) s')
        (fun e s' => wpAny (model prog w) (A.deeper (callEnvC fd s.heap.objs.size a)) (leaving (callEnvC fd s.heap.objs.size a) e) (fun _ s'' => R (.error e) s'') (fun e' s'' => R (.error e') s'') s') s₁) :
    codeAny (model prog w) A (.call (.ref a) ⟨vals, []⟩) R s := by
  refine codeAny_call_function hroom ho hdata hco hgen hbody hcd ?_
  rw [hbind, hclo]
  refine wpAny_pure (newEnv_pos hk hp hkind fun env he s' x ht h0 => ?_)
  subst he
  exact ⟨hlim.keeps x.toInCall.keep, codeAny_func (h s' ht h0 x)⟩

theorem bindL_other {K : Str → Option NameKind} {x : Str} : ∀ (binds : List (Str × Value)) (m : Str → Option Value), x ∉ binds.map (·.1) → bindL K binds m x = m x
  | [], m, _ => rfl
  | (y, v) :: r, m, h => by
    rw [List.map_cons, List.mem_cons, not_or] at h
    unfold bindL
    rw [bindL_other r _ h.2]
    split
    · exact if_neg h.1
    · rfl
theorem bindL_at {K : Str → Option NameKind} {x : Str} {v : Value} : ∀ (binds : List (Str × Value)) (m : Str → Option Value), (binds.map (·.1)).Nodup → (x, v) ∈ binds → K x = some .local → bindL K binds m x = some v
  | [], m, _, h, _ => nomatch h
  | (y, u) :: r, m, hn, h, hk => by
    rw [List.map_cons, List.nodup_cons] at hn
    unfold bindL
    rcases List.mem_cons.mp h with e | h
    · cases e
      rw [bindL_other r _ hn.1, if_pos hk]
      simp
    · exact bindL_at r _ hn.2 h hk
theorem bindC_other {K : Str → Option NameKind} {x : Str} : ∀ (binds : List (Str × Value)) (m : Str → Option Value), x ∉ binds.map (·.1) → bindC K binds m x = m x
  | [], m, _ => rfl
  | (y, v) :: r, m, h => by
    rw [List.map_cons, List.mem_cons, not_or] at h
    unfold bindC
    rw [bindC_other r _ h.2]
    split
    · rfl
    · exact if_neg h.1
theorem bindC_at {K : Str → Option NameKind} {x : Str} {v : Value} : ∀ (binds : List (Str × Value)) (m : Str → Option Value), (binds.map (·.1)).Nodup → (x, v) ∈ binds → K x = some .cell → bindC K binds m x = some v
  | [], m, _, h, _ => nomatch h
  | (y, u) :: r, m, hn, h, hk => by
    rw [List.map_cons, List.nodup_cons] at hn
    unfold bindC
    rcases List.mem_cons.mp h with e | h
    · cases e
      rw [bindC_other r _ hn.1, if_neg (by rw [hk]; exact fun z => nomatch z)]
      simp
    · exact bindC_at r _ hn.2 h hk

theorem zip_rel {h : Heap} {tk : Nat} {x : Str} {p : PV} : ∀ {params : List Str} {ps : List PV} {vs : List Value}, RelVs X N h tk ps vs → (params.zip ps).lookup x = some p → ∃ v, (x, v) ∈ params.zip vs ∧ RelV X N h tk p v
  | [], _, _, _, e => by cases e
  | y :: r, _, _, .nil, e => by cases e
  | y :: r, _, _, .cons q v ps vs h1 h2, e => by
    rw [List.zip_cons_cons, List.lookup_cons] at e
    cases hb : x == y with
    | true =>
      rw [hb] at e
      cases e
      exact ⟨v, by rw [beq_iff_eq.mp hb]; exact List.mem_cons_self .., h1⟩
    | false =>
      rw [hb] at e
      obtain ⟨u, hu, hr⟩ := zip_rel h2 e
      exact ⟨u, List.mem_cons_of_mem _ hu, hr⟩

theorem stepF_sound (XO : XOk prog w X) (S : Snd prog w X G mg mb ev n) (hR : Room (n + 1) A) {x : Str} {fi : FnI} {a : Addr} {ps : List PV} {vs : List Value} {r : PV} (g : Gnd X G mg mb s.heap) (h0 : 0 < s.toks ∨ ∃ x, fi.params = [x] ∧ fi.scope.names.lookup x = some .local) (nb : ∀ b, N b → (s.heap.get? b).isSome = true)
    (hf : G.fns.lookup x = some fi) (hfa : FnAt s.heap x fi a) (h : stepF G ev x ps = some r) (hr : RelVs X N s.heap s.toks ps vs) : wpAny (model prog w) A (call (.ref a) vs) (Res X N s r) E s := by
  obtain ⟨o, args, pm, code, doc, ho, hd, hcode, hpar, hok⟩ := hfa
  unfold stepF at h
  rw [hf] at h
  obtain ⟨hlen, h⟩ := if_some2 h
  · skip
    have hlen : fi.params.length = ps.length := by simpa using hlen
    rw [Option.map_eq_some_iff] at h
    obtain ⟨⟨ε', fl⟩, hS, hres⟩ := h
    unfold fnOk at hok
    simp only [Bool.and_eq_true] at hok
    obtain ⟨⟨⟨⟨⟨⟨hk, hco⟩, hgen⟩, hps⟩, hnd⟩, hnm⟩, hnn⟩ := hok
    have hk : fi.scope.kind = .function := by simpa using hk
    have hco : fi.scope.isCoroutine = false := by simpa using hco
    have hgen : fi.scope.isGenerator = false := by simpa using hgen
    have hnd : fi.params.Nodup := of_decide_eq_true hnd
    have hnn : (fi.scope.names.map (·.1)).Nodup := of_decide_eq_true hnn
    have hlv : fi.params.length = vs.length := by rw [hlen, hr.length]
    have hkeys : ((fi.params.zip vs).map (·.1)) = fi.params := List.map_fst_zip (Nat.le_of_eq hlv)
    have hbind := bind_plain (x := x) (body := fi.body) (scope := fi.scope) (pm := pm) (code := code) (doc := doc) (args := args) (vals := vs) (by rw [hpar]; exact hnd) (by rw [hpar]; exact hlv)
    rw [hpar] at hbind
    have kinds : ∀ y ∈ fi.params, fi.scope.names.lookup y = some .local ∨ fi.scope.names.lookup y = some .cell := fun y hy => by
      have := List.all_eq_true.mp hps y hy
      simpa using this
    refine wpAny_call (codeAny_call_cellsT (by have := hR.2.1; omega) ho hd g.lim hcode rfl hbind rfl (fun y hy => ?_) hco hgen hk ?_ fun s₁ ht hpos IC => ?_)
    · have hmem : y.1 ∈ fi.params := by rw [← hkeys]; exact List.mem_map.mpr ⟨y, hy, rfl⟩
      rcases kinds y.1 hmem with q | q
      · exact .inl q
      · refine .inr ⟨q, ?_⟩
        obtain ⟨i, hi⟩ := cellNo_some q
        show ((cellsFrom (s.heap.objs.size + 1) fi.scope.names []).lookup y.1).isSome = true
        rw [cellsFrom_lookup _ _ _ hnn, hi]; rfl
    · rcases h0 with h0 | ⟨y, hy, hyl⟩
      · exact .inl h0
      · refine .inr ?_
        rw [hy] at hlv ⊢
        cases vs with
        | nil => cases hlv
        | cons v r => cases r with
          | nil => exact ⟨y, v, rfl, hyl⟩
          | cons _ _ => cases hlv
    · obtain ⟨h₁, t₁, es⟩ := IC.toInCall.same
      have keep := IC.toInCall.keep
      have look : ∀ y, (callEnvC (docDef x ⟨[], args, none, [], [], none, []⟩ fi.body fi.scope pm code doc) s.heap.objs.size a).cells.lookup y = match cellNo fi.scope.names y with | some i => some (s.heap.objs.size + 1 + i) | none => none := fun y => by
        show (cellsFrom (s.heap.objs.size + 1) fi.scope.names []).lookup y = _
        rw [cellsFrom_lookup _ _ _ hnn]; rfl
      have hE : EnvS X (fun b => N b ∨ NewAt s.heap s₁.heap b) (NewAt s.heap s₁.heap) s₁.heap s₁.toks (callEnvC (docDef x ⟨[], args, none, [], [], none, []⟩ fi.body fi.scope pm code doc) s.heap.objs.size a) { vars := fi.params.zip ps } := by
        have newL : NewAt s.heap s₁.heap s.heap.objs.size := ⟨none_of_size (Nat.le_refl _), by
          obtain ⟨o, _, _, ho, _⟩ := IC.toInCall.ns
          have ho : s₁.heap.get? s.heap.objs.size = some o := ho
          rw [ho]; rfl⟩
        have newC : ∀ y c, (callEnvC (docDef x ⟨[], args, none, [], [], none, []⟩ fi.body fi.scope pm code doc) s.heap.objs.size a).cells.lookup y = some c → NewAt s.heap s₁.heap c := fun y c hc => by
          have hcell := IC.cell y c hc
          rw [look] at hc
          split at hc
          · cases hc
            obtain ⟨o, ho, _⟩ := hcell
            exact ⟨none_of_size (by rw [Nat.add_assoc]; exact Nat.le_add_right _ _), by rw [ho]; rfl⟩
          · cases hc
        refine ⟨⟨hpos, fun b z => .inr z, hk, rfl, rfl, ⟨_, IC.toInCall.ns⟩, newL, fun y c hc => .inr (newC y c hc), fun y ky => ?_, fun y z c hy hz => ?_, fun y c hc => ?_, fun b z => ?_, fun y p hp => ?_, fun y l hl => nomatch hl⟩, newC⟩
        · obtain ⟨i, hi⟩ := cellNo_some (l := fi.scope.names) ky
          have hc : (callEnvC (docDef x ⟨[], args, none, [], [], none, []⟩ fi.body fi.scope pm code doc) s.heap.objs.size a).cells.lookup y = some (s.heap.objs.size + 1 + i) := by rw [look, hi]
          exact ⟨_, _, hc, IC.cell y _ hc⟩
        · rw [look] at hy hz
          split at hy
          · rename_i i hi
            split at hz
            · rename_i j hj
              cases hy
              have : i = j := by
                have := Option.some.inj hz
                exact (Nat.add_left_cancel this).symm
              subst this
              exact cellNo_inj hi hj
            · cases hz
          · cases hy
        · rw [look] at hc
          by_cases q : fi.scope.names.lookup y = some .cell
          · exact q
          · rw [cellNo_none q hnn] at hc; cases hc
        · rcases z with z | z
          · obtain ⟨o, ho⟩ := Option.isSome_iff_exists.mp (nb b z)
            rw [keep b o ho]; rfl
          · exact z.2
        · obtain ⟨v, hv, hrel⟩ := zip_rel hr hp
          refine ⟨v, ?_, hrel.tr (fun b o n q => ⟨fun z => z.elim n (fun z => by rw [z.1] at q; cases q), keep b o q⟩) ht⟩
          have hmem : y ∈ fi.params := by rw [← hkeys]; exact List.mem_map.mpr ⟨(y, v), hv, rfl⟩
          have nd : ((fi.params.zip vs).map (·.1)).Nodup := by rw [hkeys]; exact hnd
          rcases kinds y hmem with q | q
          · exact .inl ⟨q, _, IC.toInCall.ns, bindL_at _ _ nd hv q⟩
          · obtain ⟨i, hi⟩ := cellNo_some q
            have hc : (callEnvC (docDef x ⟨[], args, none, [], [], none, []⟩ fi.body fi.scope pm code doc) s.heap.objs.size a).cells.lookup y = some (s.heap.objs.size + 1 + i) := by rw [look, hi]
            refine .inr ⟨q, _, hc, ?_⟩
            have := IC.cell y _ hc
            rw [bindC_at _ _ nd hv q] at this
            exact this
      have hR' : Room n (A.deeper (callEnvC (docDef x ⟨[], args, none, [], [], none, []⟩ fi.body fi.scope pm code doc) s.heap.objs.size a)) := by
        refine ⟨hR.1, ?_, ?_⟩
        · have := hR.2.1
          show A.depth + 1 + n + 10 < recursionLimit
          omega
        · have := hR.2.2
          show A.units + 3 + 20 * n + 100 < cLine
          omega
      refine wpAny_mono (S.S _ _ s₁ _ _ _ _ fi.body ε' fl s.heap hR' g keep (fun b z => z.1) hE hS) (fun f s' hEnds => ?_) fun _ _ q => q
      have hflow : (fl = .next → f = .next) ∧ (∀ p, fl = .ret p → ∃ v, f = .ret v) := ⟨fun z => by subst z; exact hEnds.isNext, fun p z => by subst z; exact hEnds.isRet⟩
      obtain ⟨N', W', h', tk, a1, a2, a3, rfl, a5, a6, a7, e', hfl⟩ := hEnds
      have ks : KS s { s₁ with heap := h', toks := tk } := by
        subst es
        exact ⟨h', tk, rfl, fun b o q => a6 b o (fun z => by rw [z.1] at q; cases q) (keep b o q), Nat.le_trans ht a5⟩
      have back : ∀ b, N b → N' b := fun b z => a1 b (.inl z) (fun y => by have := nb b z; rw [y.1] at this; cases this)
      cases fl with
      | next =>
        obtain rfl := hflow.1 rfl
        have : r = .none := hres.symm
        subst this
        exact ⟨ks, .none⟩
      | ret p =>
        obtain ⟨v, rfl⟩ := hflow.2 p rfl
        have : r = p := hres.symm
        subst this
        exact ⟨ks, RelV.less back hfl⟩
end
end Mine
end

section
set_option maxHeartbeats 1000000
open PySem PySem.Calls PyProof.Rows PySem.Spec PySem.Builtin PySem.Builtin.Str PySem.W
namespace Mine

section
variable (prog : Program) (w : World) (X : ObjW) (G : GCtx) (mg mb : Str → Option Value)

/-- the comprehensions that make sets and dicts: their soundness, level by level -/
structure CompMore : Prop where
  set : ∀ (ev : Ev) (n : Nat), Snd prog w X G mg mb ev n → ∀ (A : Around) (E : Value → Shared → Prop) (s : Shared) (N W : Addr → Prop) (env : Env) (ε : LEnv) (elt tgt iter : Expr) (sc : Scope) (pos : Pos) (p : PV), Room n A → Gnd X G mg mb s.heap → EnvAt X N W s.heap s.toks env ε →
    setCompV G ev env.scope ε elt tgt iter sc = some p → ∀ (use : Option (Value → Sem Unit)) (cpos : Pos) (Q : Value → Shared → Prop),
    (∀ D C m s', KS s s' → s.heap.get? C = none → s'.heap.Ns C m → RelV X (fun b => N b ∨ b = C) s'.heap s'.toks p D → compPost (model prog w) A E use Q D C (.ok .next) s') →
    wpAny (model prog w) A (comprehension (.SetComp elt [⟨tgt, iter, [], 0⟩] sc pos) sc env cpos (newSet (.type "set")) false (eval iter env) use) Q E s
  dict : ∀ (ev : Ev) (n : Nat), Snd prog w X G mg mb ev n → ∀ (A : Around) (E : Value → Shared → Prop) (s : Shared) (N W : Addr → Prop) (env : Env) (ε : LEnv) (k v tgt iter : Expr) (sc : Scope) (pos : Pos) (p : PV), Room n A → Gnd X G mg mb s.heap → EnvAt X N W s.heap s.toks env ε →
    dictCompV G ev env.scope ε k v tgt iter sc = some p → ∀ (use : Option (Value → Sem Unit)) (cpos : Pos) (Q : Value → Shared → Prop),
    (∀ D C m s', KS s s' → s.heap.get? C = none → s'.heap.Ns C m → RelV X (fun b => N b ∨ b = C) s'.heap s'.toks p D → compPost (model prog w) A E use Q D C (.ok .next) s') →
    wpAny (model prog w) A (comprehension (.DictComp k v [⟨tgt, iter, [], 0⟩] sc pos) sc env cpos newDict false (eval iter env) use) Q E s
end

section
variable {prog : Program} {w : World} {X : ObjW} {G : GCtx} {mg mb : Str → Option Value} {ev : Ev} {n : Nat}
variable {A : Around} {E : Value → Shared → Prop} {s s₁ s₂ : Shared} {N W : Addr → Prop} {env : Env} {ε ε' : LEnv} {tgt : Expr} {h₀ : Heap} {fl : Fl}

theorem post_res {p : PV} {D : Value} {C : Addr} {m : Str → Option Value} {s' : Shared} (k : KS s s') (hC : s.heap.get? C = none) (hns : s'.heap.Ns C m) (hr : RelV X (fun b => N b ∨ b = C) s'.heap s'.toks p D) :
    compPost (model prog w) A E none (Res X N s p) D C (.ok .next) s' := by
  refine ⟨m, hns, fun h' hs' => ⟨?_, hr.tr (fun b o z q => ⟨fun y => z (.inl y), hs'.extBut b o (fun y => z (.inr y)) q⟩) (Nat.le_refl _)⟩⟩
  obtain ⟨h₁, tk, rfl, hs, ht⟩ := k
  exact ⟨h', tk, rfl, fun b o q => hs'.extBut b o (fun z => by rw [z, hC] at q; cases q) (hs b o q), ht⟩

theorem post_use {p : PV} {D : Value} {C : Addr} {m : Str → Option Value} {s' : Shared} {u : Value → Sem Unit} {Q : Unit → Shared → Prop} (k : KS s s') (hC : s.heap.get? C = none) (hns : s'.heap.Ns C m) (hr : RelV X (fun b => N b ∨ b = C) s'.heap s'.toks p D)
    (hu : ∀ v s₁ C, KS s s₁ → s.heap.get? C = none → (s₁.heap.get? C).isSome = true → RelV X (fun b => N b ∨ b = C) s₁.heap s₁.toks p v → wpAny (model prog w) A (u v) (fun _ s₂ => (∀ o, s₁.heap.get? C = some o → s₂.heap.get? C = some o) ∧ ∀ h', Heap.SameBut C s₂.heap h' → Q () { s₂ with heap := h' }) E s₁) :
    compPost (model prog w) A E (some u) (fun _ s' => wpAny (model prog w) A (pure ()) Q E s') D C (.ok .next) s' := by
  refine wpAny_mono (hu D s' C k hC ?_ hr) (fun _ s₂ h₂ => ⟨m, hns.at' fun o q => h₂.1 o q, fun h' hs' => wpAny_pure (h₂.2 h' hs')⟩) fun _ _ q => q
  obtain ⟨o, _, _, ho, _⟩ := hns
  rw [ho]; rfl

theorem comp_cases {x : Expr} {p : PV} {sc : Scope} (hc : isComp x = true) (h : stepE G ev sc ε x = some p) :
    (∃ elt tgt iter ifs s pos, x = .ListComp elt [⟨tgt, iter, ifs, 0⟩] s pos) ∨ (∃ elt tgt iter s pos, x = .SetComp elt [⟨tgt, iter, [], 0⟩] s pos ∧ setCompV G ev sc ε elt tgt iter s = some p) ∨
      ∃ k v tgt iter s pos, x = .DictComp k v [⟨tgt, iter, [], 0⟩] s pos ∧ dictCompV G ev sc ε k v tgt iter s = some p := by
  cases x with
  | ListComp elt gs s pos =>
    obtain ⟨tgt, iter, ifs, rfl, h'⟩ := gen1_some (k := fun tgt iter ifs => listCompV G ev sc ε elt tgt iter ifs s) h
    exact .inl ⟨elt, tgt, iter, ifs, s, pos, rfl⟩
  | SetComp elt gs s pos =>
    obtain ⟨tgt, iter, ifs, rfl, h'⟩ := gen1_some (k := fun tgt iter ifs => match ifs with | [] => setCompV G ev sc ε elt tgt iter s | _ :: _ => none) h
    cases ifs with
    | nil => exact .inr (.inl ⟨elt, tgt, iter, s, pos, rfl, h'⟩)
    | cons => exact no_some h'
  | DictComp k v gs s pos =>
    obtain ⟨tgt, iter, ifs, rfl, h'⟩ := gen1_some (k := fun tgt iter ifs => match ifs with | [] => dictCompV G ev sc ε k v tgt iter s | _ :: _ => none) h
    cases ifs with
    | nil => exact .inr (.inr ⟨k, v, tgt, iter, s, pos, rfl, h'⟩)
    | cons => exact no_some h'
  | _ => exact no_ft hc

theorem step_sound (XO : XOk prog w X) (CM : CompMore prog w X G mg mb) (hact : X.act → 40 ≤ n) (S : Snd prog w X G mg mb ev n) : Snd prog w X G mg mb (step G ev) (n + 1) where
  noE := fun sc ε e h => by
    cases e <;> first | rfl | (exfalso; simp [isBad] at h)
  E := fun A E s N W env ε x p hR g e h => by
    have hR := hR.less (Nat.le_succ n)
    refine stepE_sound XO S hact hR g e (fun hc => ?_) h
    rcases comp_cases hc h with ⟨elt, tgt, iter, ifs, sc, pos, rfl⟩ | ⟨elt, tgt, iter, sc, pos, rfl, h'⟩ | ⟨k, v, tgt, iter, sc, pos, rfl, h'⟩
    · exact listComp_sound XO S hR g e h
    · exact CM.set ev n S A E s N W env ε elt tgt iter sc pos p hR g e h' none _ _ fun D C m s' k hC hns hr => post_res k hC hns hr
    · exact CM.dict ev n S A E s N W env ε k v tgt iter sc pos p hR g e h' none _ _ fun D C m s' k hC hns hr => post_res k hC hns hr
  U := fun A E s N W env ε x p u Q hR g e hc h hu => by
    have hR := hR.less (Nat.le_succ n)
    rcases comp_cases hc h with ⟨elt, tgt, iter, ifs, sc, pos, rfl⟩ | ⟨elt, tgt, iter, sc, pos, rfl, h'⟩ | ⟨k, v, tgt, iter, sc, pos, rfl, h'⟩
    · exact listComp_use XO S hR g e h hu
    · show wpAny _ _ (comprehension (.SetComp elt [⟨tgt, iter, [], 0⟩] sc pos) sc env (firstIterPos [⟨tgt, iter, [], 0⟩] pos) (newSet (.type "set")) false (eval iter env) (some u) >>= fun _ => pure ()) _ _ _
      exact wpAny_bind (CM.set ev n S A E s N W env ε elt tgt iter sc pos p hR g e h' (some u) _ _ fun D C m s' k hC hns hr => post_use k hC hns hr hu)
    · show wpAny _ _ (comprehension (.DictComp k v [⟨tgt, iter, [], 0⟩] sc pos) sc env (firstIterPos [⟨tgt, iter, [], 0⟩] pos) newDict false (eval iter env) (some u) >>= fun _ => pure ()) _ _ _
      exact wpAny_bind (CM.dict ev n S A E s N W env ε k v tgt iter sc pos p hR g e h' (some u) _ _ fun D C m s' k hC hns hr => post_use k hC hns hr hu)
  T := fun A E s N W env ε x b hR g e h => stepT_sound XO S (hR.less (Nat.le_succ n)) g e h
  S := fun A E s N W env ε ss ε' fl h₀ hR g hs hW e h => stepS_sound XO S (hR.less (Nat.le_succ n)) g hs hW e h
  F := fun A E s N x fi a ps vs r hR g h0 nb hf hfa h hr => stepF_sound XO S hR g (.inl h0) nb hf hfa h hr

theorem evN_sound (XO : XOk prog w X) (CM : CompMore prog w X G mg mb) {j : Nat} (hact : X.act → 40 ≤ j) : ∀ n, Snd prog w X G mg mb (evN G n) (j + n)
  | 0 => {
      noE := fun _ _ _ _ => rfl
      E := by intro A E s N W env ε e p _ _ _ h; cases h
      U := by intro A E s N W env ε e p u Q _ _ _ _ h _; cases h
      T := by intro A E s N W env ε e b _ _ _ h; cases h
      S := by intro A E s N W env ε ss ε' fl h₀ _ _ _ _ _ h; cases h
      F := by intro A E s N x fi a ps vs r _ _ _ _ _ _ h _; cases h }
  | n + 1 => step_sound XO CM (fun h => Nat.le_trans (hact h) (Nat.le_add_right _ _)) (evN_sound XO CM hact n)
end
end Mine
end

section
set_option maxHeartbeats 1000000
open PySem PySem.Calls PyProof.Rows PySem.Spec PySem.Builtin PySem.Builtin.Str PySem.W
namespace Mine

theorem lookup_reverse_of {α : Type} {l : List (Str × α)} {x : Str} {v : α} (hn : (l.map (·.1)).Nodup) (h : (x, v) ∈ l) : l.reverse.lookup x = some v :=
  lookup_of_nodup (by rw [List.map_reverse]; unfold List.Nodup at *; rw [List.pairwise_reverse]; exact hn.imp fun z => Ne.symm z) (List.mem_reverse.mpr h)

section
variable {prog : Program} {w : World} {X : ObjW} {G : GCtx} {mg mb : Str → Option Value} {ev : Ev} {n : Nat}
variable {A : Around} {s s₁ s₂ : Shared} {N W : Addr → Prop} {env : Env} {ε ε' : LEnv} {tgt : Expr} {h₀ : Heap} {fl : Fl}

/-- a call of a function without cells: its letters at the start -/
theorem call_fd {R : Result → Shared → Prop} {a : Addr} {o : Obj} {fd : FuncData} {body : List Stmt} {args : Args} {binds : List (Str × Value)}
    (hroom : A.depth < recursionLimit) (ho : s.heap.get? a = some o) (hdata : o.data = .func fd) (hlim : s.heap.NoLimit) (hcd : s.heap.CodeRec fd.code fd.qualname)
    (hbody : fd.body = .stmts body) (hbind : BindsTo s fd args binds) (hcell : ∀ x ∈ fd.scope.names, x.2 ≠ .cell) (hloc : ∀ x ∈ binds, fd.scope.names.lookup x.1 = some .local)
    (hco : fd.scope.isCoroutine = false) (hgen : fd.scope.isGenerator = false) (hk : fd.scope.kind = .function) (hclo : fd.closure = []) (hgl : fd.globals = mainGlobals) (hbi : fd.builtins = builtinsNs)
    (hn : (binds.map (·.1)).Nodup) (h0 : 0 < s.toks) (nb : ∀ b, N b → (s.heap.get? b).isSome = true) (hrel : ∀ x p, ε.vars.lookup x = some p → ∃ v, (x, v) ∈ binds ∧ RelV X N s.heap s.toks p v) (hown : ε.own = none)
    (h : ∀ (env : Env) (s₁ : Shared) (E : Value → Shared → Prop), env.scope = fd.scope → KS s s₁ → EnvS X (fun b => N b ∨ NewAt s.heap s₁.heap b) (NewAt s.heap s₁.heap) s₁.heap s₁.toks env ε → (∀ x v, (x, v) ∈ binds → VarAt s₁.heap env x v) →
      wpAny (model prog w) (A.deeper env) (execs body env) (fun f s' => R (.ok (.ret (match f with | .ret v => v | _ => .none))) s') E s₁) :
    codeAny (model prog w) A (.call (.ref a) args) R s := by
  refine codeAny_call_def hroom ho hdata hlim hcd hbody hbind hcell hloc (fun h₁ hns keep => ?_) hco hgen hk
  have eC : (callEnv fd s.heap.objs.size a).cells = [] := hclo
  have newL : NewAt s.heap h₁ s.heap.objs.size := ⟨none_of_size (Nat.le_refl _), by obtain ⟨o, _, _, ho, _⟩ := hns; rw [ho]; rfl⟩
  have noC : ∀ x c, (callEnv fd s.heap.objs.size a).cells.lookup x ≠ some c := fun x c hc => by rw [eC] at hc; cases hc
  have noCell : ∀ x, fd.scope.names.lookup x ≠ some .cell := fun x q => hcell _ (mem_of_lookup q) rfl
  refine h (callEnv fd s.heap.objs.size a) { s with heap := h₁, toks := s.toks + binds.length } _ rfl ⟨h₁, _, rfl, keep, Nat.le_add_right _ _⟩ ⟨⟨Nat.lt_of_lt_of_le h0 (Nat.le_add_right _ _), fun b z => .inr z, hk, hgl, hbi, ⟨_, hns⟩, newL, fun x c hc => absurd hc (noC x c), fun x hx => absurd hx (noCell x), fun x y c hx => absurd hx (noC x c),
    fun x c hc => absurd hc (noC x c), fun b z => ?_, fun x p hp => ?_, fun x l hl => nomatch hown.symm.trans hl⟩, fun x c hc => absurd hc (noC x c)⟩ fun x v hv => .inl ⟨hloc _ hv, _, hns, lookup_reverse_of hn hv⟩
  · rcases z with z | z
    · obtain ⟨o, ho⟩ := Option.isSome_iff_exists.mp (nb b z)
      show (h₁.get? b).isSome = true
      rw [keep b o ho]; rfl
    · exact z.2
  · obtain ⟨v, hv, hr⟩ := hrel x p hp
    exact ⟨v, .inl ⟨hloc _ hv, _, hns, lookup_reverse_of hn hv⟩, hr.tr (fun b o n q => ⟨fun z => z.elim n (fun z => nomatch z.1.symm.trans q), keep b o q⟩) (Nat.le_add_right _ _)⟩

/-- what a body has done, seen from the caller -/
theorem Ends.back {f : Flow} {s' : Shared} (nb : ∀ b, N b → (s.heap.get? b).isSome = true) (k : KS s s₁) (h : Ends X (fun b => N b ∨ NewAt s.heap s₁.heap b) (NewAt s.heap s₁.heap) s₁ env ε' fl f s') : KS s s' ∧ ∀ p v, fl = .ret p → f = .ret v → RelV X N s'.heap s'.toks p v := by
  obtain ⟨N', W', h', tk, a1, a2, a3, rfl, a5, a6, a7, e', hfl⟩ := h
  refine ⟨?_, fun p v z y => ?_⟩
  · obtain ⟨h₁, t₁, rfl, hs, ht⟩ := k
    exact ⟨h', tk, rfl, fun b o q => a6 b o (fun z => by rw [z.1] at q; cases q) (hs b o q), Nat.le_trans ht a5⟩
  · subst z y
    exact RelV.less (fun b z => a1 b (.inl z) (fun y => by have := nb b z; rw [y.1] at this; cases this)) hfl
end
end Mine
end

section
set_option maxHeartbeats 1000000
open PySem PySem.Calls PyProof.Rows PySem.Spec PySem.Builtin PySem.Builtin.Str PySem.W
namespace Mine

noncomputable def nameCode : Array Nat := #[14, 10, 4, 1, 1, 22, 0, 31, 16, 127, 0, 13, 7, 22, 0, 31, 16, 127, 0, 1]
noncomputable def valCode : Array Nat := #[14, 14, 4, 1, 1, 9, 4294966783, 0, 0, 2147483648, 0, 0, 0, 0, 0, 13, 11, 9, 4294966783, 0, 0, 2147483648, 0, 0, 0, 0, 0, 1]

theorem name_set {c : Nat} (h1 : 32 ≤ c) (h2 : c < 127) (seen : Sre.Seen) : ∃ seen', Sre.inSet nameCode c nameCode.size 5 true seen = .ok (false, seen') := by
  have a1 : (decide (0 ≤ c) && decide (c ≤ 31)) = false := by
    rw [Bool.and_eq_false_iff]; exact .inr (decide_eq_false (by omega))
  have a2 : (c == 127) = false := beq_eq_false_iff_ne.mpr (by omega)
  refine ⟨((seen.add 22).add 16).add 0, ?_⟩
  show Sre.inSet nameCode c (19 + 1) 5 true seen = _
  rw [Sre.inSet]
  show (if (decide (0 ≤ c) && decide (c ≤ 31)) = true then _ else Sre.inSet nameCode c (18 + 1) (5 + 3) true (seen.add 22)) = _
  rw [a1, if_neg Bool.false_ne_true, Sre.inSet]
  show (if (c == 127) = true then _ else Sre.inSet nameCode c (17 + 1) (5 + 3 + 2) true ((seen.add 22).add 16)) = _
  rw [a2, if_neg Bool.false_ne_true, Sre.inSet]
  rfl

theorem val_bits : ∀ c, c < 127 → 32 ≤ c → ((valCode.getD (5 + (1 + c / 32)) 0).testBit (c % 32)) = false := by decide +kernel

theorem val_set {c : Nat} (h1 : 32 ≤ c) (h2 : c < 127) (seen : Sre.Seen) : ∃ seen', Sre.inSet valCode c valCode.size 5 true seen = .ok (false, seen') := by
  have a1 : (decide (c < 256) && (valCode.getD (5 + (1 + c / 32)) 0).testBit (c % 32)) = false := by rw [val_bits c h2 h1, Bool.and_false]
  refine ⟨(seen.add 9).add 0, ?_⟩
  show Sre.inSet valCode c (27 + 1) 5 true seen = _
  rw [Sre.inSet]
  show (if (decide (c < 256) && (valCode.getD (5 + (1 + c / 32)) 0).testBit (c % 32)) = true then _ else Sre.inSet valCode c (26 + 1) (5 + 9) true (seen.add 9)) = _
  rw [a1, if_neg Bool.false_ne_true, Sre.inSet]
  rfl

/-- a code whose first set no clean letter is in -/
structure Shuns (code : Array Nat) : Prop where
  set : ∀ c, 32 ≤ c → c < 127 → ∀ seen, ∃ seen', Sre.inSet code c code.size 5 true seen = .ok (false, seen')
  first : ∀ m : Sre.M, m.code = code → m.hasFirstSet = true
  head : Sre.header code = (1, 11) ∨ Sre.header code = (1, 15)

theorem name_shuns : Shuns nameCode := ⟨fun c h1 h2 seen => name_set h1 h2 seen, fun m h => by unfold Sre.M.hasFirstSet; rw [h]; rfl, .inl rfl⟩
theorem val_shuns : Shuns valCode := ⟨fun c h1 h2 seen => val_set h1 h2 seen, fun m h => by unfold Sre.M.hasFirstSet; rw [h]; rfl, .inr rfl⟩

theorem clean_at {x : Str} (h : cleanS x = true) {i : Nat} (hi : i < x.cps.size) : 32 ≤ x.cps.getD i 0 ∧ x.cps.getD i 0 < 127 := by
  unfold cleanS at h
  have := List.all_eq_true.mp h (x.cps[i]) (by simp)
  rw [Bool.and_eq_true] at this
  have e : x.cps.getD i 0 = x.cps[i] := by simp [Array.getD, hi]
  rw [e]
  exact ⟨of_decide_eq_true this.1, of_decide_eq_true this.2⟩

theorem admitted_none {code : Array Nat} (S : Shuns code) {x : Str} (hx : cleanS x = true) {m : Sre.M} (hc : m.code = code) (ht : m.text = x.cps) (hl : m.lim = x.cps.size) : ∀ (fuel s : Nat) (seen : Sre.Seen), ∃ seen', Sre.M.admitted m fuel s seen = .ok (none, seen')
  | 0, s, seen => ⟨seen, rfl⟩
  | fuel + 1, s, seen => by
    unfold Sre.M.admitted
    by_cases hs : s ≥ m.lim
    · rw [if_pos hs]; exact ⟨seen, rfl⟩
    · rw [if_neg hs]
      rw [ht, hc]
      obtain ⟨h1, h2⟩ := clean_at hx (i := s) (by omega)
      obtain ⟨seen', e⟩ := S.set _ h1 h2 seen
      rw [e]
      exact admitted_none S hx hc ht hl fuel (s + 1) seen'

theorem search_fails {code : Array Nat} (S : Shuns code) {x : Str} (hx : cleanS x = true) : ∃ m, (Sre.forSearch code x.cps 0 0 x.cps.size false).runFor 4 = m ∧ m.outcome = some .failed := by
  refine ⟨_, rfl, ?_⟩
  have fin : ∀ m : Sre.M, m.answer = none → m.outcome = none → m.frames = [] → ((m.say false).runFor 4).outcome = some .failed := by
    intro m h1 h2 h3
    have st : (m.say false).step = { m.say false with outcome := some .failed } := by
      unfold Sre.M.step Sre.M.say
      dsimp only
      rw [h2, h3]
      rfl
    have ho : (m.say false).outcome.isSome = false := by show m.outcome.isSome = false; rw [h2]; rfl
    show ((Sre.M.runFor (3 + 1) (m.say false))).outcome = _
    rw [Sre.M.runFor, ho, if_neg Bool.false_ne_true, st]
    rfl
  unfold Sre.forSearch
  dsimp only
  split
  · exact fin _ rfl rfl rfl
  · unfold Sre.M.attemptFrom
    rw [S.first _ rfl]
    rw [if_neg (by decide)]
    split
    · rename_i e
      exact (admitted_none S hx (by rfl) (by rfl) (by rfl) _ _ _).elim fun seen' e' => nomatch (e'.symm.trans e)
    · exact fin _ rfl rfl rfl
    · rename_i e
      exact (admitted_none S hx (by rfl) (by rfl) (by rfl) _ _ _).elim fun seen' e' => nomatch (e'.symm.trans e)
end Mine
end

section
set_option maxHeartbeats 1000000
open PySem PySem.Calls PyProof.Rows PySem.Spec PySem.Builtin PySem.Builtin.Str PySem.W
namespace Mine

theorem named_one (v : Value) : Re.reNamed "re.Pattern.search" "search" ["string", "pos", "endpos"] 1 [v] [] = pure [some v, none, none] := by rfl

section
variable {M : Model} {A : Around} {E : Value → Shared → Prop} {s : Shared}

theorem rules_loop {f : Nat → PUnit → Sem (ForInStep PUnit)} {seen : Sre.Seen} (hf : ∀ i u, f i u = (if seen.has i = true then (do rule (Sre.names.getD i ""); pure (.yield ⟨⟩)) else pure (.yield ⟨⟩))) : ∀ (l : List Nat) (Q : PUnit → Shared → Prop), Q ⟨⟩ s → wpAny M A (forIn l ⟨⟩ f) Q E s
  | [], Q, h => by rw [List.forIn_nil]; exact wpAny_pure h
  | i :: r, Q, h => by
    rw [List.forIn_cons, hf]
    split
    · exact wpAny_bind (wpAny_bind (wpAny_rule (wpAny_pure (rules_loop hf r Q h))))
    · exact wpAny_bind (wpAny_pure (rules_loop hf r Q h))

theorem run_fails {m : Sre.M} (h : (m.runFor 4).outcome = some .failed) {Q : Option Sre.M → Shared → Prop} (hQ : Q none s) : wpAny M A (Re.reRunToEnd m) Q E s := by
  have hd : Re.reDrive (2 ^ 64) m = pure (m.runFor 4) := by
    rw [show (2 : Nat) ^ 64 = (2 ^ 64 - 1) + 1 from rfl, Re.reDrive]
    show (if ((m.runFor 4).outcome.isSome) = true then pure (m.runFor 4) else _) = _
    rw [h]; rfl
  unfold Re.reRunToEnd
  rw [hd]
  refine wpAny_bind (wpAny_pure ?_)
  refine wpAny_bind (rules_loop (seen := (m.runFor 4).seen) (fun i u => ?_) _ _ ?_)
  · split <;> rfl
  · rw [h]
    exact wpAny_pure hQ

theorem search_run {a c : Addr} {o oc : Obj} {fs items : Array Value} {k : Nat} {x : Str} {t : Tok} {code : Array Nat} {P : Fin → Shared → Prop} (hS : Shuns code) (hx : cleanS x = true) (hl : x.length ≤ big) (ho : s.heap.get? a = some o) (hd : o.data = .fields fs) (h5 : fs.getD 5 .none = .ref c)
    (h2 : Re.reRawNat (fs.getD 2 .none) = 0) (h6 : Re.reRawNat (fs.getD 6 .none) = 0) (hc : s.heap.get? c = some oc) (hi : oc.data = .seq items k) (hcode : (items.map Re.reRawOf).map (·.toNat) = code) (hP : P (.done (.ret .none)) s) :
    wpAny M A (Builtin.«re.Pattern.search» ⟨[.ref a, .str x t], []⟩) P E s := by
  unfold Builtin.«re.Pattern.search»
  refine wpAny_bind ?_
  unfold Re.reTarget
  dsimp only
  rw [named_one]
  refine wpAny_bind (wpAny_pure ?_)
  dsimp only
  refine wpAny_bind (wpAny_pure ?_)
  refine wpAny_bind (wpAny_pure ?_)
  refine wpAny_bind (wpAny_fieldsOf ho hd ?_)
  have e1 : Re.reTextOf (.str x t) = pure (x.cps, 0) := by rfl
  rw [e1]
  refine wpAny_bind (wpAny_pure ?_)
  dsimp only
  rw [h6, h5, h2]
  simp only [show ((0 : Nat) == 0 && (0 : Nat) == 1) = false from rfl, show ((0 : Nat) == 1 && (0 : Nat) == 0) = false from rfl, Bool.false_eq_true, if_false]
  refine wpAny_bind (wpAny_pure ?_)
  unfold Re.reRawItems
  refine wpAny_bind (wpAny_bind (wpAny_seqItems hc hi (wpAny_pure ?_)))
  refine wpAny_pure ?_
  dsimp only
  have eb : big = 1000000 := rfl
  have el : Min.min (2 ^ 63 - 1 : Int).toNat x.cps.size = x.cps.size := by
    have : x.cps.size ≤ big := hl
    have e2 : (2 ^ 63 - 1 : Int).toNat = 9223372036854775807 := by decide
    rw [e2]
    omega
  have ep : Min.min (Int.toNat 0) x.cps.size = 0 := by simp
  rw [el, ep]
  have ec : Array.map (fun x => x.toNat) ((Option.getD (some items) #[]).map Re.reRawOf) = code := hcode
  rw [ec]
  obtain ⟨m, e1, e2⟩ := search_fails hS hx
  unfold Re.reAnswer
  refine wpAny_bind (run_fails (by rw [e1]; exact e2) ?_)
  exact wpAny_pure hP
end
end Mine
end

section
set_option maxHeartbeats 1000000
open PySem PySem.Calls PyProof.Rows PySem.Spec PySem.Builtin PySem.Builtin.Str PySem.W
namespace Mine

theorem slot_search : Slot "re.Pattern" "search" "re.Pattern.search" :=
  .of (owner := "re.Pattern") (n := "search") (by rw [typeLookup_type, builtinLookup_eq_fast]; kernel_rfl) (by decide +kernel) (by decide +kernel) (by decide +kernel) (by first | exact .inl (by decide +kernel) | exact .inr (by decide +kernel)) (by rw [isSubtype_type]; kernel_rfl)
theorem entry_search : entryFor table "re.Pattern.search" = some Builtin.«re.Pattern.search» := entryFor_of_tree (by kernel_rfl)
theorem args_search (a b : Value) : argsOk "re.Pattern.search" ⟨[a, b], []⟩ := by unfold argsOk; kernel_rfl
theorem plain_pattern : PlainAttrs "re.Pattern" :=
  ⟨⟨"object.__getattribute__", by rw [typeLookup_type, builtinLookup_eq_fast]; kernel_rfl, by decide +kernel⟩, by rw [typeLookup_type, builtinLookup_eq_fast]; kernel_rfl⟩
theorem type_search : typeOf (.builtin "re.Pattern.search") = pure (.type "method_descriptor") := by show builtinType _ = _; rw [builtinType_eq_fast]; kernel_rfl

/-- a pattern that no clean text meets -/
noncomputable def PatAt (h : Heap) (a : Addr) : Prop := ∃ (c : Addr) (o oc : Obj) (fs items : Array Value) (k : Nat) (code : Array Nat), Shuns code ∧ h.get? a = some o ∧ o.cls = .type "re.Pattern" ∧ o.dict = none ∧ o.data = .fields fs ∧ fs.getD 5 .none = .ref c ∧
  Re.reRawNat (fs.getD 2 .none) = 0 ∧ Re.reRawNat (fs.getD 6 .none) = 0 ∧ h.get? c = some oc ∧ oc.data = .seq items k ∧ (items.map Re.reRawOf).map (·.toNat) = code

theorem PatAt.keeps {h h' : Heap} {a : Addr} (hk : Sub h h') : PatAt h a → PatAt h' a
  | ⟨c, o, oc, fs, items, k, code, a1, a2, a3, a4, a5, a6, a7, a8, a9, r⟩ => ⟨c, o, oc, fs, items, k, code, a1, hk _ _ a2, a3, a4, a5, a6, a7, a8, hk _ _ a9, r⟩

section
variable {prog : Program} {w : World} {A : Around} {E : Value → Shared → Prop} {s : Shared}

theorem get_search {a : Addr} {pl : Sem Bool} {Q : Value × List Value → Shared → Prop} (h : PatAt s.heap a) (hq : Q (.builtin "re.Pattern.search", [.ref a]) s) : wpAny (model prog w) A (getMethod (.ref a) "search" pl) Q E s := by
  obtain ⟨c, o, oc, fs, items, k, code, a1, a2, a3, a4, r⟩ := h
  exact getMethod_builtin ⟨o, a2, a3⟩ plain_pattern slot_search type_search (fun b e => by cases e; exact ⟨o, a2, a4⟩) hq

theorem call_search {a : Addr} {x : Str} {t : Tok} {Q : Value → Shared → Prop} (h : PatAt s.heap a) (hx : cleanS x = true) (hl : x.length ≤ big) (hq : Q .none s) : wpAny (model prog w) A (call (.builtin "re.Pattern.search") [.ref a, .str x t]) Q E s := by
  obtain ⟨c, o, oc, fs, items, k, code, a1, a2, a3, a4, a5, a6, a7, a8, a9, a10, a11⟩ := h
  exact wpAny_call_entry slot_search ⟨o, a2, a3⟩ entry_search (search_run a1 hx hl a2 a5 a6 a7 a8 a9 a10 a11 ⟨_, rfl, hq⟩) (args_search _ _)
end
end Mine
end

section
set_option maxHeartbeats 1000000
open PySem PySem.Calls PyProof.Rows PySem.Spec PySem.Builtin PySem.Builtin.Str PySem.W
namespace Mine

/-- the body of _convert_string_type -/
noncomputable def ConvBody (body : List Stmt) : Prop := ∃ p1 p2 p3 p4 p5 p6 p7 p8 p9 p10 p11 p12 p13 p14 p15 p16 p17 p18 p19 ra rest, (p13.endLine == p15.line) = true ∧
  body = .If (.Compare (.Call (.Name "type" p1) [.Name "value" p2] [] p3) [.Is] [.Name "str" p4] p5) [.Assign [.Name "regex" p6] (.IfExp (.Name "name" p7) (.Name "_name_disallowed_re" p8) (.Name "_value_disallowed_re" p9) p10) p11,
    .If (.Call (.Attribute (.Name "regex" p12) "search" p13) [.Name "value" p14] [] p15) ra [] p16, .Return (some (.Name "value" p17)) p18] [] p19 :: rest

section
variable {prog : Program} {w : World} {A : Around} {E : Value → Shared → Prop} {s : Shared} {env : Env} {mg mb : Str → Option Value}

theorem same_type (T : String) {Q : Value → Shared → Prop} (h : Q (.bool true) s) : wpAny (model prog w) A (compareOp .Is (.type T) (.type T)) Q E s := by
  show wpAny _ _ (do return .bool (← isSame (.type T) (.type T))) Q E s
  have e : isSame (.type T) (.type T) = pure true := by
    show (pure (Value.type T == Value.type T) : Sem Bool) = pure true
    rw [beq_self_eq_true]
  rw [e]
  exact wpAny_bind (wpAny_pure (wpAny_pure h))

theorem conv_body {body : List Stmt} {x : Str} {t : Tok} {b : Bool} {r1 r2 : Addr} {m : Str → Option Value} {Q : Flow → Shared → Prop} (hb : ConvBody body) (hk : env.scope.kind = .function) (hn : s.heap.Ns env.locals m)
    (lv : env.kindOf "value" = some .local) (ln : env.kindOf "name" = some .local) (lr : env.kindOf "regex" = some .local) (g1 : env.kindOf "type" = some .globalImplicit) (g2 : env.kindOf "str" = some .globalImplicit) (g3 : env.kindOf "_name_disallowed_re" = some .globalImplicit) (g4 : env.kindOf "_value_disallowed_re" = some .globalImplicit)
    (hv : m "value" = some (.str x t)) (hnm : m "name" = some (.bool b)) (hg : s.heap.Ns env.globals mg) (hbu : s.heap.Ns env.builtins mb) (n1 : mg "type" = none) (n2 : mg "str" = none) (b1 : mb "type" = some (.type "type")) (b2 : mb "str" = some (.type "str"))
    (m1 : mg "_name_disallowed_re" = some (.ref r1)) (m2 : mg "_value_disallowed_re" = some (.ref r2)) (P1 : PatAt s.heap r1) (P2 : PatAt s.heap r2) (hx : cleanS x = true) (hl : x.length ≤ big)
    (hQ : ∀ h' tk, Heap.SameBut env.locals s.heap h' → s.toks ≤ tk → Q (.ret (.str x t)) { s with heap := h', toks := tk }) : wpAny (model prog w) A (execs body env) Q E s := by
  obtain ⟨p1, p2, p3, p4, p5, p6, p7, p8, p9, p10, p11, p12, p13, p14, p15, p16, p17, p18, p19, ra, rest, hline, rfl⟩ := hb
  refine wpAny_execs_cons (wpAny_If (wpAny_isTrue_Compare1 ?_ rfl))
  refine wpAny_bind (Name_function_global hk g1 (loadGlobal_builtin hg n1 hbu b1 ?_))
  refine PySem.callWith_type rfl (evalArgs_plain (spliced_cons (wpAny_Name (wpAny_loadName_local hk lv hn hv (spliced_nil ?_)))))
  refine call_type_of (typeIs_str _ _ _) (by decide) ?_
  refine Name_function_global hk g2 (loadGlobal_builtin hg n2 hbu b2 ?_)
  refine same_type "str" (wpAny_truthy_bool ?_)
  rw [if_pos rfl]
  refine wpAny_execs_cons (wpAny_Assign_Name ?_)
  have fin : ∀ r, PatAt s.heap r → wpAny (model prog w) A (storeName env "regex" (.ref r)) (fun _ s' => wpAny (model prog w) A (execs [.If (.Call (.Attribute (.Name "regex" p12) "search" p13) [.Name "value" p14] [] p15) ra [] p16, .Return (some (.Name "value" p17)) p18] env) (fun f s' => match f with
      | .next => wpAny (model prog w) A (execs rest env) Q E s'
      | f => Q f s') E s') E s := by
    intro r hP
    refine wpAny_storeName_local lr hn (fun h' hn' hs' => ?_) (by rw [hk]; rfl)
    have hP' : PatAt h' r := by
      obtain ⟨c, o, oc, fs, items, k, code, a1, a2, a3, a4, a5, a6, a7, a8, a9, a10, a11⟩ := hP
      obtain ⟨on, es, ep, hon, hdn, _⟩ := hn
      have nr : r ≠ env.locals := fun z => by rw [z, hon] at a2; cases a2; rw [hdn] at a5; cases a5
      have nc : c ≠ env.locals := fun z => by rw [z, hon] at a9; cases a9; rw [hdn] at a10; cases a10
      exact ⟨c, o, oc, fs, items, k, code, a1, hs'.extBut _ _ nr a2, a3, a4, a5, a6, a7, a8, hs'.extBut _ _ nc a9, a10, a11⟩
    refine wpAny_execs_cons (wpAny_If (wpAny_isTrue_value ?_))
    refine method_any (by simp) rfl (by rw [hline]; rfl) (wpAny_Name (wpAny_loadName_local hk lr hn' (v := .ref r) (by simp) fun pl => ?_))
    refine get_search hP' ?_
    refine callWith_builtin rfl (evalArgs_plain (spliced_cons (wpAny_Name (wpAny_loadName_local hk lv hn' (v := .str x t) (by rw [if_neg (by decide)]; exact hv) (spliced_nil ?_)))))
    refine call_search hP' hx hl (PyProof.Rows.truthy_none ?_)
    rw [if_neg Bool.false_ne_true]
    refine wpAny_execs_nil ?_
    refine wpAny_execs_cons (wpAny_Return_some (wpAny_Name (wpAny_loadName_local hk lv hn' (v := .str x t) (by rw [if_neg (by decide)]; exact hv) ?_)))
    exact hQ h' _ hs' (Nat.le_succ _)
  refine PySem.wpAny_IfExp (wpAny_isTrue_value (wpAny_Name (wpAny_loadName_local hk ln hn hnm (wpAny_truthy_bool ?_))))
  cases b with
  | true =>
    rw [if_pos rfl]
    exact Name_function_global hk g3 (loadGlobal_global hg m1 (fin r1 P1))
  | false =>
    rw [if_neg Bool.false_ne_true]
    exact Name_function_global hk g4 (loadGlobal_global hg m2 (fin r2 P2))
end
end Mine
end

section
set_option maxHeartbeats 1000000
open PySem PySem.Calls PyProof.Rows PySem.Spec PySem.Builtin PySem.Builtin.Str PySem.W
namespace Mine

structure FdIs (fd : FuncData) (body : List Stmt) : Prop where
  body : fd.body = .stmts body
  clo : fd.closure = []
  glo : fd.globals = mainGlobals
  bui : fd.builtins = builtinsNs
  co : fd.scope.isCoroutine = false
  gen : fd.scope.isGenerator = false
  kind : fd.scope.kind = .function
  cell : ∀ x ∈ fd.scope.names, x.2 ≠ .cell

/-- the function _convert_string_type and what it reads -/
structure ConvAt (mg mb : Str → Option Value) (h : Heap) (f : Addr) : Prop where
  fn : ∃ o fd body, h.get? f = some o ∧ o.data = .func fd ∧ FdIs fd body ∧ ConvBody body ∧ h.CodeRec fd.code fd.qualname ∧
    (fd.scope.names.lookup ("self" : Str) = some .local ∧ fd.scope.names.lookup ("value" : Str) = some .local ∧ fd.scope.names.lookup ("name" : Str) = some .local ∧ fd.scope.names.lookup ("regex" : Str) = some .local) ∧
    (fd.scope.names.lookup ("type" : Str) = some .globalImplicit ∧ fd.scope.names.lookup ("str" : Str) = some .globalImplicit ∧ fd.scope.names.lookup ("_name_disallowed_re" : Str) = some .globalImplicit ∧ fd.scope.names.lookup ("_value_disallowed_re" : Str) = some .globalImplicit) ∧
    ∀ self x t b, bindArgs fd ⟨[self, .str x t], [("name", .bool b)]⟩ = pure [(("self" : Str), self), (("value" : Str), .str x t), (("name" : Str), .bool b)]
  g : h.Ns mainGlobals mg
  b : h.Ns builtinsNs mb
  lim : h.NoLimit
  nt : mg "type" = none ∧ mg "str" = none ∧ mb "type" = some (.type "type") ∧ mb "str" = some (.type "str")
  pats : ∃ r1 r2, mg "_name_disallowed_re" = some (.ref r1) ∧ mg "_value_disallowed_re" = some (.ref r2) ∧ PatAt h r1 ∧ PatAt h r2

section
variable {prog : Program} {w : World} {A : Around} {E : Value → Shared → Prop} {s : Shared} {mg mb : Str → Option Value}

theorem conv_call {f : Addr} {self : Value} {x : Str} {t : Tok} {b : Bool} {Q : Value → Shared → Prop} (hC : ConvAt mg mb s.heap f) (hroom : A.depth < recursionLimit) (hx : cleanS x = true) (hl : x.length ≤ big) (hQ : ∀ s', KS s s' → Q (.str x t) s') :
    wpAny (model prog w) A (call (.ref f) [self, .str x t] [(("name" : Str), .bool b)]) Q E s := by
  obtain ⟨o, fd, body, ho, hd, F, hb, hcode, ⟨l1, l2, l3, l4⟩, ⟨g1, g2, g3, g4⟩, hbind⟩ := hC.fn
  obtain ⟨r1, r2, m1, m2, P1, P2⟩ := hC.pats
  refine wpAny_call (codeAny_call_def hroom ho hd hC.lim hcode F.body (BindsTo.of_eq (hbind self x t b)) F.cell (fun y hy => ?_) (fun h₁ hns keep => ?_) F.co F.gen F.kind)
  · simp only [List.mem_cons, List.not_mem_nil, or_false] at hy
    rcases hy with rfl | rfl | rfl
    · exact l1
    · exact l2
    · exact l3
  · refine conv_body (env := callEnv fd s.heap.objs.size f) (s := { s with heap := h₁, toks := s.toks + ([("self", self), ("value", Value.str x t), ("name", Value.bool b)] : List (Str × Value)).length }) hb F.kind hns l2 l3 l4 g1 g2 g3 g4 (by rfl) (by rfl) (mg := mg) (mb := mb) ?_ ?_ hC.nt.1 hC.nt.2.1 hC.nt.2.2.1 hC.nt.2.2.2 m1 m2 (P1.keeps keep) (P2.keeps keep) hx hl fun h' tk hs' ht => hQ _ ?_
    · show h₁.Ns fd.globals mg
      rw [F.glo]
      exact hC.g.keeps keep
    · show h₁.Ns fd.builtins mb
      rw [F.bui]
      exact hC.b.keeps keep
    · refine ⟨h', tk, rfl, fun c o q => hs'.extBut c o (fun z => ?_) (keep c o q), Nat.le_trans (Nat.le_add_right _ _) ht⟩
      have z : c = s.heap.objs.size := z
      rw [z] at q
      exact absurd (Heap.lt_size q) (Nat.lt_irrefl _)
end
end Mine
end

section
set_option maxHeartbeats 1000000
open PySem PySem.Calls PyProof.Rows PySem.Spec PySem.Builtin PySem.Builtin.Str PySem.W
namespace Mine

/-- plain values alone; an object of any kind may be named as `.dct []` -/
noncomputable def Xp (P : Obj → Prop) : ObjW := { dct := fun o l => l = [] ∧ P o, sset := fun _ _ => False, inst := fun _ _ => False, dict := fun _ _ => False, base := fun _ => True, act := False, cls := 0, fn := fun _ => 0 }
noncomputable def Gp : GCtx := { fns := [], consts := [], owns := [], hdr := none, more := false, dicts := false }

theorem xp_ok (P : Obj → Prop) (prog : Program) (w : World) : XOk prog w (Xp P) where
  inS := fun _ _ _ _ _ _ _ _ _ _ h => h.elim
  getD := fun _ _ _ x y _ _ _ l _ _ _ _ h hl => by
    have h : l = [] := h.1
    rw [h] at hl; cases hl
  lenS := fun _ _ _ _ _ _ _ _ h => h.elim
  baseK := fun _ _ _ _ => trivial
  keep := fun _ _ _ h => h.elim
  ia := fun _ _ h => h.elim
  hdrM := fun _ _ _ _ _ _ _ _ _ _ _ r => by cases r with | hdr _ x dx a ox od hN hN' ho hi ho' hi' hr => exact hi.elim
  hdrCall := fun _ _ _ _ _ _ _ _ _ _ _ _ _ _ _ r => by cases r with | hdr _ x dx a ox od hN hN' ho hi ho' hi' hr => exact hi.elim
  hdrNew := fun _ _ _ _ _ _ _ h => h.elim

theorem set_none {G : GCtx} {ev : Ev} {sc s : Scope} {ε : LEnv} {elt tgt iter : Expr} (hm : G.more = false) : setCompV G ev sc ε elt tgt iter s = none := by
  unfold setCompV; rw [hm]; rfl
theorem dict_none {G : GCtx} {ev : Ev} {sc s : Scope} {ε : LEnv} {k v tgt iter : Expr} (hm : G.dicts = false) : dictCompV G ev sc ε k v tgt iter s = none := by
  unfold dictCompV; rw [hm]; rfl
theorem more_none {prog : Program} {w : World} {X : ObjW} {G : GCtx} {mg mb : Str → Option Value} (hm : G.more = false) (hd : G.dicts = false) : CompMore prog w X G mg mb where
  set := fun _ _ _ _ _ _ _ _ _ _ _ _ _ _ _ _ _ _ _ h => no_some ((set_none hm).symm.trans h)
  dict := fun _ _ _ _ _ _ _ _ _ _ _ _ _ _ _ _ _ _ _ _ h => no_some ((dict_none hd).symm.trans h)

theorem plain_sound (P : Obj → Prop) (prog : Program) (w : World) (mg mb : Str → Option Value) (n : Nat) : Snd prog w (Xp P) Gp mg mb (evN Gp n) n := by
  have := evN_sound (j := 0) (mg := mg) (mb := mb) (xp_ok P prog w) (more_none (G := Gp) rfl rfl) (fun h => h.elim) n
  rwa [Nat.zero_add] at this
end Mine
end

section
set_option maxHeartbeats 1000000
open PySem PySem.Calls PyProof.Rows PySem.Spec PySem.Builtin PySem.Builtin.Str PySem.W
namespace Mine

/-- the class Headers in a fragment of the heap: all of it is read off the fragment -/
structure HdrK (K : Frag) (C fget fkeys fitems fconv finit : Addr) : Prop where
  plain : ∀ name, plainGet K C name = true
  hasDict : hasDictIn K C = true
  noHeaders : findIn K (.ref C) "_headers" = some none
  get : findIn K (.ref C) "get" = some (some (.ref fget)) ∧ isFn K (.ref fget) = true ∧ keepIn K (.ref fget) = true
  keys : findIn K (.ref C) "keys" = some (some (.ref fkeys)) ∧ isFn K (.ref fkeys) = true ∧ keepIn K (.ref fkeys) = true
  items : findIn K (.ref C) "items" = some (some (.ref fitems)) ∧ isFn K (.ref fitems) = true ∧ keepIn K (.ref fitems) = true
  conv : findIn K (.ref C) "_convert_string_type" = some (some (.ref fconv)) ∧ isFn K (.ref fconv) = true ∧ keepIn K (.ref fconv) = true
  init : findIn K (.ref C) "__init__" = some (some (.ref finit)) ∧ isFn K (.ref finit) = true
  makes : makesIn K C = true
  keepC : keepIn K (.ref C) = true
  sets : findIn K (.ref C) "__setattr__" = some (some (.builtin "object.__setattr__")) ∧ plainOver K C = true ∧ takerIn K C "_headers" = some none

/-- the namespace of an object that has its headers -/
noncomputable def HdrDict (od : Obj) (a : Addr) : Prop := ∃ es n, od = dictOf es n ∧ getL "_headers" es = some (some (.ref a)) ∧ getL "get" es = some none ∧ getL "keys" es = some none ∧ getL "items" es = some none ∧ getL "_convert_string_type" es = some none

noncomputable def Xr (K : Frag) (C fget fkeys fitems : Addr) (dct : Obj → List (Str × Str) → Prop) (sset : Obj → List Str → Prop) (base : Heap → Prop) : ObjW :=
  { dct := dct, sset := sset, inst := fun ox dx => ox.cls = .ref C ∧ notCls ox = true ∧ ox.dict = some dx, dict := HdrDict, base := base, act := True, cls := C,
    fn := fun k => match k with | .get => fget | .keys => fkeys | .items => fitems | _ => 0 }

section
variable {prog : Program} {w : World} {A : Around} {E : Value → Shared → Prop} {s : Shared} {K : Frag} {C fget fkeys fitems fconv finit : Addr}

/-- an object with its headers lies here -/
structure HdrHere (h : Heap) (C x dx a : Addr) : Prop where
  inst : ∃ ox od, InstAt h x ox C (some od) ∧ ox.dict = some dx ∧ h.get? dx = some od ∧ HdrDict od a

theorem attr_headers {x dx a : Addr} {expr : Bool} {Q : Value → Shared → Prop} (H : HdrK K C fget fkeys fitems fconv finit) (X : K.In s.heap) (h : HdrHere s.heap C x dx a) (hq : Q (.ref a) { s with toks := s.toks + 1 }) :
    wpAny (model prog w) A (getAttr (.ref x) "_headers" expr) Q E s := by
  obtain ⟨ox, od, I, hd, ho, es, n, rfl, h1, h2, h3, h4, h5⟩ := h.inst
  exact get_value X I (plainGet_of (H.plain "_headers")).1 (findObj_own H.hasDict H.noHeaders rfl h1) rfl hq

theorem meth_of {x dx a f : Addr} {name : Str} {pl : Sem Bool} {Q : Value × List Value → Shared → Prop} (H : HdrK K C fget fkeys fitems fconv finit) (X : K.In s.heap) (h : HdrHere s.heap C x dx a) (hn : name = "get" ∨ name = "keys" ∨ name = "items" ∨ name = "_convert_string_type")
    (hf : findIn K (.ref C) name = some (some (.ref f)) ∧ isFn K (.ref f) = true) (hq : Q (.ref f, [.ref x]) s) : wpAny (model prog w) A (getMethod (.ref x) name pl) Q E s := by
  obtain ⟨ox, od, I, hd, ho, es, n, rfl, h1, h2, h3, h4, h5⟩ := h.inst
  have hl : getL name es = some none := by
    rcases hn with rfl | rfl | rfl | rfl
    · exact h2
    · exact h3
    · exact h4
    · exact h5
  exact method_fn X I (plainGet_of (H.plain name)).1 (plainGet_of (H.plain name)).2 hf.1 (beq_iff_eq.mp hf.2) (by show (lookIn name (dictOf es n)).map _ = _; rw [lookIn_dict, hl]; rfl) hq
end
end Mine
end

section
set_option maxHeartbeats 1000000
open PySem PySem.Calls PyProof.Rows PySem.Spec PySem.Builtin PySem.Builtin.Str PySem.W
namespace Mine

mutual
noncomputable def plainP : PV → Bool
  | .dct _ => false
  | .sset _ => false
  | .hdr _ => false
  | .tup l => plainPs l
  | .lst l => plainPs l
  | _ => true
noncomputable def plainPs : List PV → Bool
  | [] => true
  | p :: r => plainP p && plainPs r
end

theorem and_1 {p : PV} {r : List PV} (e : plainPs (p :: r) = true) : plainP p = true := by
  have e : (plainP p && plainPs r) = true := e
  rw [Bool.and_eq_true] at e; exact e.1
theorem and_2 {p : PV} {r : List PV} (e : plainPs (p :: r) = true) : plainPs r = true := by
  have e : (plainP p && plainPs r) = true := e
  rw [Bool.and_eq_true] at e; exact e.2

section
variable {X X' : ObjW} {N : Addr → Prop} {h : Heap} {tk : Nat}
mutual
theorem RelV.to' : ∀ {p : PV} {v : Value}, RelV X N h tk p v → plainP p = true → RelV X' N h tk p v
  | _, _, .none, _ => .none
  | _, _, .bool b, _ => .bool b
  | _, _, .int i t, _ => .int i t
  | _, _, .str s g t hl hg, _ => .str s g t hl hg
  | _, _, .bytes b t hl, _ => .bytes b t hl
  | _, _, .tup ps a vs n hN ho hl hr, e => .tup ps a vs n hN ho hl (RelVs.to' hr e)
  | _, _, .lst ps a vs n hN ho hl hr, e => .lst ps a vs n hN ho hl (RelVs.to' hr e)
  | _, _, .dct l a o hN ho hd, e => nomatch e
  | _, _, .sset l a o hN ho hd, e => nomatch e
  | _, _, .hdr l x dx a ox od hN hN' ho hi ho' hi' hr, e => nomatch e
theorem RelVs.to' : ∀ {ps : List PV} {vs : List Value}, RelVs X N h tk ps vs → plainPs ps = true → RelVs X' N h tk ps vs
  | _, _, .nil, _ => .nil
  | _, _, .cons p v ps vs h1 h2, e => .cons p v ps vs (RelV.to' h1 (and_1 e)) (RelVs.to' h2 (and_2 e))
end
theorem RelV.to {p : PV} {v : Value} (e : plainP p = true) (r : RelV X N h tk p v) : RelV X' N h tk p v := r.to' e
theorem RelVs.to {p : List PV} {v : List Value} (e : plainPs p = true) (r : RelVs X N h tk p v) : RelVs X' N h tk p v := r.to' e
end

abbrev rowsP (l : List (Str × Str)) : List PV := l.map fun kv => .tup [.str kv.1 false, .str kv.2 false]
theorem plain_rows : ∀ l : List (Str × Str), plainPs (rowsP l) = true
  | [] => rfl
  | kv :: r => by
    show (plainP (.tup [.str kv.1 false, .str kv.2 false]) && plainPs (rowsP r)) = true
    rw [plain_rows r]; rfl
theorem plain_strs : ∀ l : List Str, plainPs (strsV l) = true
  | [] => rfl
  | s :: r => by
    show (plainP (.str s false) && plainPs (strsV r)) = true
    rw [plain_strs r]; rfl

theorem name_E {G : GCtx} {n : Nat} {sc : Scope} {ε : LEnv} {x : Str} {px : Pos} {p : PV} (hx : (x == ("__debug__" : Str)) = false) (h : ε.vars.lookup x = some p) : (evN G (n + 1)).E sc ε (.Name x px) = some p := by
  show nameV G sc ε x = some p
  unfold nameV
  rw [hx, h]
  rfl
theorem setV_local {sc : Scope} {ε : LEnv} {x : Str} {p : PV} (ho : ε.own = none) (hl : sc.names.lookup x = some .local) : setV sc ε x p = some { ε with vars := upd x p ε.vars } :=
  setV_mk (by unfold isOwn; rw [ho]) (.inl hl)

theorem slice_all (l : List PV) : sliceV (.lst l) none none none = some (.lst l) := by
  have e : pickL l none none none = l := by
    unfold pickL
    rw [sliceBounds_plain]
    simp only [Option.elim_none]
    rw [sliceRange_one]
    have := pick_run l.toArray 0 l.length
    simp only [List.getElem?_toArray] at this
    rw [Nat.sub_zero, this]
    simp
  show some (PV.lst (pickL l none none none)) = _
  rw [e]

/-- what every method of Headers reads -/
structure HB (K : Frag) (mg mb : Str → Option Value) (fconv : Addr) (h : Heap) : Prop where
  k : K.In h
  conv : ConvAt mg mb h fconv
  g : ∀ P, Gnd (Xp P) Gp mg mb h
  nl : mg "list" = none ∧ mb "list" = some (.type "list")

theorem ConvAt.keeps {mg mb : Str → Option Value} {h h' : Heap} {f : Addr} (hk : Sub h h') (c : ConvAt mg mb h f) : ConvAt mg mb h' f where
  fn := by
    obtain ⟨o, fd, body, a1, a2, a3, a4, a5, a6⟩ := c.fn
    exact ⟨o, fd, body, hk _ _ a1, a2, a3, a4, a5.keeps hk, a6⟩
  g := c.g.keeps hk
  b := c.b.keeps hk
  lim := c.lim.keeps hk
  nt := c.nt
  pats := by
    obtain ⟨r1, r2, m1, m2, P1, P2⟩ := c.pats
    exact ⟨r1, r2, m1, m2, P1.keeps hk, P2.keeps hk⟩

theorem HB.keeps {K : Frag} {mg mb : Str → Option Value} {f : Addr} {h h' : Heap} (b : HB K mg mb f h) (hk : Sub h h') : HB K mg mb f h' :=
  ⟨b.k.keeps hk, b.conv.keeps hk, fun P => (b.g P).keeps (fun _ _ _ _ => trivial) hk, b.nl⟩

/-- a function of the class, as it lies in the fragment -/
structure MethIn (K : Frag) (f : Addr) (fd : FuncData) (body : List Stmt) : Prop where
  fn : ∃ o, K.lookup f = some o ∧ o.data = .func fd
  is : FdIs fd body
  code : codeIn K fd.code fd.qualname = true

noncomputable def KeysBody (body : List Stmt) : Prop := ∃ p1 p2 p3 p4 p5 p6 p7 p8 kk sc, sc.kind = .function ∧ sc.names = [((".0" : Str), .local), (("k" : Str), .local), (("v" : Str), .local)] ∧
  body = [.Return (some (.ListComp (.Name "k" p1) [⟨.Tuple [.Name "k" p2, .Name "v" p3] kk p4, .Attribute (.Name "self" p5) "_headers" p6, [], 0⟩] sc p7)) p8]
noncomputable def ItemsBody (body : List Stmt) : Prop := ∃ p1 p2 p3 p4 p5, body = [.Return (some (.Subscript (.Attribute (.Name "self" p1) "_headers" p2) (.Slice none none none p3) p4)) p5]

theorem comp_keys {G : GCtx} {sc : Scope} {p1 p2 p3 p4 : Pos} {kk : Nat} (hn : sc.names = [((".0" : Str), .local), (("k" : Str), .local), (("v" : Str), .local)]) {ε : LEnv} (ho : ε.own = none) :
    ∀ l : List (Str × Str), compE (evN G 1) sc ε (.Tuple [.Name "k" p2, .Name "v" p3] kk p4) [] (.Name "k" p1) (rowsP l) = some (strsV (l.map (·.1)))
  | [] => rfl
  | kv :: r => by
    have ih := comp_keys (G := G) (p1 := p1) (p2 := p2) (p3 := p3) (p4 := p4) (kk := kk) hn ho r
    have l1 : sc.names.lookup ("k" : Str) = some .local := by rw [hn]; rfl
    have l2 : sc.names.lookup ("v" : Str) = some .local := by rw [hn]; rfl
    show ((setV sc ε "k" (.str kv.1 false)).bind fun ε => setV sc ε "v" (.str kv.2 false)).bind _ = _
    rw [setV_local ho l1, Option.bind_some, setV_local (ε := { ε with vars := upd "k" (.str kv.1 false) ε.vars }) ho l2, Option.bind_some]
    show (some true).bind _ = _
    rw [Option.bind_some, if_pos rfl, name_E (by decide) (p := .str kv.1 false) (by rw [lookup_upd, if_neg (by decide), lookup_upd, if_pos rfl]), Option.bind_some, ih]
    rfl

section
variable {prog : Program} {w : World} {A : Around} {E : Value → Shared → Prop} {s : Shared} {K : Frag} {C fget fkeys fitems fconv finit : Addr} {mg mb : Str → Option Value}
variable {dct : Obj → List (Str × Str) → Prop} {sset : Obj → List Str → Prop} {base : Heap → Prop} {N : Addr → Prop}

theorem HdrHere.of {l : List (Str × Str)} {v : Value} {h : Heap} {tk : Nat} (r : RelV (Xr K C fget fkeys fitems dct sset base) N h tk (.hdr l) v) : ∃ x dx a vs n, v = .ref x ∧ HdrHere h C x dx a ∧ ¬ N x ∧ ¬ N a ∧ h.get? a = some (seqO "list" vs n) ∧ l.length ≤ big ∧ ∀ P, RelVs (Xp P) N h tk (rowsP l) vs := by
  cases r with | hdr _ x dx a ox od hN hN' ho hi ho' hi' hr =>
  cases hr with | lst _ _ vs n hNa hoa hl hrs =>
  obtain ⟨c1, c2, c3⟩ := hi
  exact ⟨x, dx, a, vs, n, rfl, ⟨ox, od, ⟨ho, c1, c2, by rw [c3]; exact ho'⟩, c3, ho', hi'⟩, hN, hNa, hoa, by simpa using hl, fun _ => RelVs.to (plain_rows l) hrs⟩

theorem HdrHere.keeps {h h' : Heap} {x dx a : Addr} (hk : Sub h h') (H : HdrHere h C x dx a) : HdrHere h' C x dx a := by
  obtain ⟨ox, od, I, hd, ho, hi⟩ := H.inst
  refine ⟨ox, od, ⟨hk _ _ I.at_, I.cls, I.no, ?_⟩, hd, hk _ _ ho, hi⟩
  rw [hd]; exact hk _ _ ho
theorem HdrHere.some {h : Heap} {x dx a : Addr} (H : HdrHere h C x dx a) : ∃ o, h.get? x = some o ∧ ∀ (h' : Heap) (b : Addr), Sub h h' → h'.get? b = some o → HdrHere h' C b dx a := by
  obtain ⟨ox, od, I, hd, ho, hi⟩ := H.inst
  refine ⟨ox, I.at_, fun h' b hk q => ⟨ox, od, ⟨q, I.cls, I.no, ?_⟩, hd, hk _ _ ho, hi⟩⟩
  rw [hd]; exact hk _ _ ho

theorem room_deep {n : Nat} {env : Env} (hR : Room 40 A) (hn : n ≤ 30) : Room n (A.deeper env) := by
  refine ⟨hR.1, ?_, ?_⟩
  · have := hR.2.1
    show A.depth + 1 + n + 10 < recursionLimit
    omega
  · have := hR.2.2
    show A.units + 3 + 20 * n + 100 < cLine
    omega

theorem attr_self {P : Obj → Prop} {N₁ W₁ : Addr → Prop} {env : Env} {ε : LEnv} {A : Around} {x dx a : Addr} {p5 p6 : Pos} {Q : Value → Shared → Prop} (H : HdrK K C fget fkeys fitems fconv finit) (X : K.In s.heap) (hh : HdrHere s.heap C x dx a) (e : EnvAt (Xp P) N₁ W₁ s.heap s.toks env ε) (hv : VarAt s.heap env "self" (.ref x))
    (hq : Q (.ref a) { s with toks := s.toks + 1 }) : wpAny (model prog w) A (eval (.Attribute (.Name "self" p5) "_headers" p6) env) Q E s :=
  Attribute_name (wpAny_Name (load_var e.kind hv (attr_headers H X hh hq)) (by decide))

theorem keys_call {fd : FuncData} {body : List Stmt} {l : List (Str × Str)} {v : Value} (H : HdrK K C fget fkeys fitems fconv finit) (M : MethIn K fkeys fd body) (hb : KeysBody body) (hn : fd.scope.names = [(("self" : Str), .local)]) (hbind : ∀ self, bindArgs fd ⟨[self], []⟩ = pure [(("self" : Str), self)])
    (hR : Room 40 A) (h0 : 0 < s.toks) (nb : ∀ b, N b → (s.heap.get? b).isSome = true) (B : HB K mg mb fconv s.heap) (hlen : l.length ≤ lim) (r : RelV (Xr K C fget fkeys fitems dct sset base) N s.heap s.toks (.hdr l) v) :
    wpAny (model prog w) A (call (.ref fkeys) [v]) (fun u s' => KS s s' ∧ RelV (Xr K C fget fkeys fitems dct sset base) N s'.heap s'.toks (.lst (strsV (l.map (·.1)))) u) E s := by
  obtain ⟨x, dx, a, vs, n, rfl, hh, hNx, hNa, ha, hl, hrs⟩ := HdrHere.of r
  obtain ⟨o, ho, hd⟩ := M.fn
  obtain ⟨ox, hox, -⟩ := hh.some
  have hrs := hrs (· = ox)
  refine wpAny_call (call_fd (X := Xp (· = ox)) (N := N) (ε := { vars := [(("self" : Str), .dct [])] }) (by have := hR.2.1; omega) (B.k _ _ ho) hd B.conv.lim (codeRec_of B.k M.code) M.is.body (BindsTo.of_eq (hbind _)) M.is.cell (fun y hy => ?_) M.is.co M.is.gen M.is.kind M.is.clo M.is.glo M.is.bui (List.nodup_cons.mpr ⟨fun z => (nomatch z), List.nodup_nil⟩) h0 nb (fun y p hp => ?_) rfl fun env s₁ E' hsc k₁ e hv => ?_)
  · rw [List.mem_singleton.mp hy, hn]; rfl
  · rw [List.lookup_cons] at hp
    split at hp
    · rename_i hy
      cases hp
      exact ⟨.ref x, List.mem_singleton.mpr (by rw [beq_iff_eq.mp hy]), .dct [] x ox hNx hox ⟨rfl, rfl⟩⟩
    · cases hp
  obtain ⟨p1, p2, p3, p4, p5, p6, p7, p8, kk, sc, hk, hnm, rfl⟩ := hb
  have hself : VarAt s₁.heap env "self" (.ref x) := hv "self" (.ref x) (List.mem_singleton.mpr rfl)
  refine wpAny_execs_cons (wpAny_Return_some ?_)
  rw [eval_ListComp]
  have B₁ := B.keeps k₁.sub
  refine wpAny_mono (listComp_it (result := strsV (l.map (·.1))) (ps := rowsP l) (use := none) (xp_ok _ prog w) (plain_sound _ prog w mg mb 1) (room_deep hR (by omega)) (B₁.g _) e.toEnvAt ?_ rfl (fun Q hQ => ?_) (by rw [List.length_map]; exact hlen) ?_ (fun D C m s' k hC hns hr => post_res k hC hns hr)) (fun u s' h' => ?_) fun _ _ q => q
  · unfold compOk
    rw [hk, hnm]
    rfl
  · refine attr_self H B₁.k (hh.keeps k₁.sub) e.toEnvAt hself ?_
    refine turn_list (N := fun b => N b ∨ NewAt s.heap s₁.heap b) (l := rowsP l) (a := a) (vs := vs) (n := n) ?_ (KS.tok (Nat.le_succ _)) ?_ (k₁.sub _ _ ha) ?_ fun s₂ it k T => hQ s₂ it ((KS.tok (s := s₁) (Nat.le_succ _)).trans k) T
    · exact e.nb
    · rintro (z | z)
      · exact hNa z
      · rw [z.1] at ha; cases ha
    · exact hrs.tr (fun b o z q => ⟨fun y => y.elim z fun y => (by rw [y.1] at q; cases q), k₁.sub b o q⟩) (Nat.le_trans k₁.toks (Nat.le_succ _))
  · have er : relab sc env.scope = sc := by
      obtain ⟨kind, names, g1, g2, g3⟩ := sc
      have hnm : names = _ := hnm
      subst hnm
      rfl
    rw [er]
    exact comp_keys hnm rfl l
  · obtain ⟨k₂, r₂⟩ := h'
    exact ⟨k₁.trans k₂, (RelV.to (p := .lst (strsV (l.map (·.1)))) (plain_strs _) r₂).less fun b z => .inl z⟩

theorem items_call {fd : FuncData} {body : List Stmt} {l : List (Str × Str)} {v : Value} (H : HdrK K C fget fkeys fitems fconv finit) (M : MethIn K fitems fd body) (hb : ItemsBody body) (hn : fd.scope.names = [(("self" : Str), .local)]) (hbind : ∀ self, bindArgs fd ⟨[self], []⟩ = pure [(("self" : Str), self)])
    (hR : Room 40 A) (h0 : 0 < s.toks) (nb : ∀ b, N b → (s.heap.get? b).isSome = true) (B : HB K mg mb fconv s.heap) (r : RelV (Xr K C fget fkeys fitems dct sset base) N s.heap s.toks (.hdr l) v) :
    wpAny (model prog w) A (call (.ref fitems) [v]) (fun u s' => KS s s' ∧ RelV (Xr K C fget fkeys fitems dct sset base) N s'.heap s'.toks (.lst (rowsP l)) u) E s := by
  obtain ⟨x, dx, a, vs, n, rfl, hh, hNx, hNa, ha, hl, hrs⟩ := HdrHere.of r
  obtain ⟨o, ho, hd⟩ := M.fn
  obtain ⟨ox, hox, -⟩ := hh.some
  have hrs := hrs (· = ox)
  refine wpAny_call (call_fd (X := Xp (· = ox)) (N := N) (ε := { vars := [(("self" : Str), .dct [])] }) (by have := hR.2.1; omega) (B.k _ _ ho) hd B.conv.lim (codeRec_of B.k M.code) M.is.body (BindsTo.of_eq (hbind _)) M.is.cell (fun y hy => ?_) M.is.co M.is.gen M.is.kind M.is.clo M.is.glo M.is.bui (List.nodup_cons.mpr ⟨fun z => (nomatch z), List.nodup_nil⟩) h0 nb (fun y p hp => ?_) rfl fun env s₁ E' hsc k₁ e hv => ?_)
  · rw [List.mem_singleton.mp hy, hn]; rfl
  · rw [List.lookup_cons] at hp
    split at hp
    · rename_i hy
      cases hp
      exact ⟨.ref x, List.mem_singleton.mpr (by rw [beq_iff_eq.mp hy]), .dct [] x ox hNx hox ⟨rfl, rfl⟩⟩
    · cases hp
  obtain ⟨p1, p2, p3, p4, p5, rfl⟩ := hb
  have hself : VarAt s₁.heap env "self" (.ref x) := hv "self" (.ref x) (List.mem_singleton.mpr rfl)
  refine wpAny_execs_cons (wpAny_Return_some ?_)
  have B₁ := B.keeps k₁.sub
  have r₁ : RelVs (Xp (· = ox)) (fun b => N b ∨ NewAt s.heap s₁.heap b) s₁.heap (s₁.toks + 1) (rowsP l) vs := hrs.tr (fun b o z q => ⟨fun y => y.elim z fun y => (by rw [y.1] at q; cases q), k₁.sub b o q⟩) (Nat.le_trans k₁.toks (Nat.le_succ _))
  have hNa' : ¬ (N a ∨ NewAt s.heap s₁.heap a) := by
    rintro (z | z)
    · exact hNa z
    · rw [z.1] at ha; cases ha
  have rl : RelV (Xp (· = ox)) (fun b => N b ∨ NewAt s.heap s₁.heap b) s₁.heap (s₁.toks + 1) (.lst (rowsP l)) (.ref a) := .lst _ a vs n hNa' (k₁.sub _ _ ha) (by rw [List.length_map]; exact hl) r₁
  refine PyProof.Rows.Subscript_ (attr_self H B₁.k (hh.keeps k₁.sub) e.toEnvAt hself (wpAny_Slice (wpAny_pure (wpAny_pure (wpAny_pure ?_)))))
  have k₅ : KS { s₁ with toks := s₁.toks + 1 } { s₁ with heap := s₁.heap.push { cls := .type "slice", data := .fields #[Value.none, Value.none, Value.none] }, toks := s₁.toks + 1 } := KS.push _ (Nat.le_refl _)
  have hp := slice_all (rowsP l)
  refine wpAny_mono (sliceV_sound (X := Xp (· = ox)) (N := fun b => N b ∨ NewAt s.heap s₁.heap b) ?_ hp (rl.ks k₅) .none .none .none (Heap.IsSliceOf.new _ _ _ _)) (fun u s' h' => ?_) fun _ _ q => q
  · exact (e.toEnvAt.ks ((KS.tok (s := s₁) (Nat.le_succ _)).trans k₅)).nb
  · obtain ⟨k₂, r₂⟩ := h'
    exact ⟨k₁.trans ((KS.tok (s := s₁) (Nat.le_succ _)).trans (k₅.trans k₂)), (RelV.to (p := .lst (rowsP l)) (plain_rows l) r₂).less fun b z => .inl z⟩
end
end Mine
end

section
set_option maxHeartbeats 1000000
open PySem PySem.Calls PyProof.Rows PySem.Spec PySem.Builtin PySem.Builtin.Str PySem.W
namespace Mine

section
variable {prog : Program} {w : World} {X : ObjW} {A : Around} {E : Value → Shared → Prop} {s : Shared} {N W : Addr → Prop} {env : Env} {ε ε₁ ε' : LEnv} {fl : Fl} {h₀ : Heap}

theorem ends_seq {st : Stmt} {rest : List Stmt} (e : EnvS X N W s.heap s.toks env ε) (hs : Sub h₀ s.heap) (hW : ∀ b, W b → h₀.get? b = none) (h1 : wpAny (model prog w) A (exec st env) (fun f s' => Ends X N W s env ε₁ .next f s') E s)
    (h2 : ∀ N' W' s', (∀ b, N' b → N b ∨ s.heap.get? b = none) → s.toks ≤ s'.toks → Sub h₀ s'.heap → (∀ b, W' b → h₀.get? b = none) → EnvS X N' W' s'.heap s'.toks env ε₁ → wpAny (model prog w) A (execs rest env) (fun f s'' => Ends X N' W' s' env ε' fl f s'') E s') :
    wpAny (model prog w) A (execs (st :: rest) env) (fun f s' => Ends X N W s env ε' fl f s') E s := by
  refine wpAny_execs_cons (wpAny_mono h1 (fun f s₁ h₁ => ?_) fun _ _ q => q)
  have := h₁.isNext
  subst this
  have hs' := h₁.sub₀ hs hW
  obtain ⟨N', W', h', tk, a1, a2, a3, rfl, a5, a6, a7, e', _⟩ := h₁
  have hW' : ∀ b, W' b → h₀.get? b = none := fun b z => (a3 b z).elim (hW b) (none_sub hs)
  exact wpAny_mono (h2 N' W' { s with heap := h', toks := tk } a2 a5 hs' hW' e') (fun f s₂ h₂ => Ends.then e.nb a1 a2 a3 a5 a6 a7 h₂) fun _ _ q => q

theorem ends_ret {st : Stmt} {rest : List Stmt} {p : PV} (h1 : wpAny (model prog w) A (exec st env) (fun f s' => Ends X N W s env ε₁ (.ret p) f s') E s) : wpAny (model prog w) A (execs (st :: rest) env) (fun f s' => Ends X N W s env ε₁ (.ret p) f s') E s := by
  refine wpAny_execs_cons (wpAny_mono h1 (fun f s₁ h₁ => ?_) fun _ _ q => q)
  obtain ⟨v, rfl⟩ := h₁.isRet
  exact h₁
end

theorem clean_lo {y : Str} (h : cleanS y = true) : cleanS (loS y) = true := by
  unfold cleanS loS at *
  rw [List.all_eq_true] at *
  intro c hc
  simp only [List.mem_map] at hc
  obtain ⟨d, hd, rfl⟩ := hc
  have := h d hd
  rw [Bool.and_eq_true, decide_eq_true_eq, decide_eq_true_eq] at this ⊢
  unfold loC
  split <;> omega

theorem brw_plain {ev : Ev} {sc : Scope} {ε : LEnv} {e : Expr} (ho : ε.own = none) : brw ev sc ε e = ev.E sc ε e := by
  unfold brw
  rw [ho]
theorem retS_plain {ev : Ev} {sc : Scope} {ε : LEnv} {e : Expr} (ho : ε.own = none) : retS ev sc ε e = (ev.E sc ε e).map fun p => (ε, .ret p) := by
  unfold retS
  rw [ho]

theorem lower_E {G : GCtx} {n : Nat} {sc : Scope} {ε : LEnv} {x a : Str} {px ap pos : Pos} {g : Bool} (hx : (x == ("__debug__" : Str)) = false) (h : ε.vars.lookup x = some (.str a g)) (ha : asciiS a = true) (hl : (ap.endLine == pos.line) = true) :
    (evN G (n + 2)).E sc ε (.Call (.Attribute (.Name x px) "lower" ap) [] [] pos) = some (.str (loS a) false) := by
  show (if (!(ap.endLine == pos.line && notSuper (.Name x px))) = true then none else callM (evN G (n + 1)) sc ε (.Name x px) "lower" []) = _
  rw [hl]
  show ((evN G (n + 1)).E sc ε (.Name x px)).bind (fun p => (mkOf ("lower" : Str)).bind fun k => if k == .replace then replV (evN G (n + 1)) sc ε p [] else (evs (evN G (n + 1)) sc ε []).bind fun ps => methV p k ps) = _
  rw [name_E hx h]
  show (if asciiS a then some (PV.str (loS a) false) else none) = _
  rw [if_pos ha]

noncomputable def GetBody (body : List Stmt) : Prop := ∃ p1 p2 p3 p4 p5 p6 p7 p8 p9 p10 p11 p12 p13 p14 p15 p16 p17 p18 p19 p20 p21 p22 p23 p24 p25 p26 kk kd,
  (p3.endLine == p9.line) = true ∧ (p5.endLine == p6.line) = true ∧ (p17.endLine == p18.line) = true ∧
  body = [.Assign [.Name "name" p1] (.Call (.Attribute (.Name "self" p2) "_convert_string_type" p3) [.Call (.Attribute (.Name "name" p4) "lower" p5) [] [] p6] [⟨some "name", .Constant (.bool true) kd p7, p8⟩] p9) p10,
    .For (.Tuple [.Name "k" p11, .Name "v" p12] kk p13) (.Attribute (.Name "self" p14) "_headers" p15) [.If (.Compare (.Call (.Attribute (.Name "k" p16) "lower" p17) [] [] p18) [.Eq] [.Name "name" p19] p20) [.Return (some (.Name "v" p21)) p22] [] p23] [] p24,
    .Return (some (.Name "default" p25)) p26]

abbrev getNames : List (Str × NameKind) := [(("self" : Str), .local), (("name" : Str), .local), (("default" : Str), .local), (("k" : Str), .local), (("v" : Str), .local)]

noncomputable def hit? (l : List (Str × Str)) (z : Str) : Fl := match l.find? (fun kv => loS kv.1 == z) with | some kv => .ret (.str kv.2 false) | none => .next

theorem get_loop {G : GCtx} {sc : Scope} {p11 p12 p13 p16 p17 p18 p19 p20 p21 p22 p23 : Pos} {kk : Nat} (hn : sc.names = getNames) (hl : (p17.endLine == p18.line) = true) {z : Str} {g : Bool} :
    ∀ (l : List (Str × Str)) (ε : LEnv), ε.own = none → ε.vars.lookup ("name" : Str) = some (.str z g) → ε.vars.lookup ("default" : Str) = some .none → l.all (fun kv => asciiS kv.1) = true →
      ∃ ε', forL (evN G 6) sc (.Tuple [.Name "k" p11, .Name "v" p12] kk p13) [.If (.Compare (.Call (.Attribute (.Name "k" p16) "lower" p17) [] [] p18) [.Eq] [.Name "name" p19] p20) [.Return (some (.Name "v" p21)) p22] [] p23] (rowsP l) ε = some (ε', hit? l z) ∧
        ε'.vars.lookup ("default" : Str) = some .none ∧ ε'.own = none
  | [], ε, ho, h1, h2, _ => ⟨ε, rfl, h2, ho⟩
  | kv :: r, ε, ho, h1, h2, ha => by
    rw [List.all_cons, Bool.and_eq_true] at ha
    have l1 : sc.names.lookup ("k" : Str) = some .local := by rw [hn]; rfl
    have l2 : sc.names.lookup ("v" : Str) = some .local := by rw [hn]; rfl
    have hb : bindT sc ε (.Tuple [.Name "k" p11, .Name "v" p12] kk p13) (.tup [.str kv.1 false, .str kv.2 false]) = some { ε with vars := upd "v" (.str kv.2 false) (upd "k" (.str kv.1 false) ε.vars) } := by
      show ((setV sc ε "k" (.str kv.1 false)).bind fun ε => setV sc ε "v" (.str kv.2 false)) = _
      rw [setV_local ho l1, Option.bind_some, setV_local (ε := { ε with vars := upd "k" (.str kv.1 false) ε.vars }) ho l2]
    have k1 : (upd "v" (.str kv.2 false) (upd "k" (.str kv.1 false) ε.vars)).lookup ("k" : Str) = some (.str kv.1 false) := by rw [lookup_upd, if_neg (by decide), lookup_upd, if_pos rfl]
    have k2 : (upd "v" (.str kv.2 false) (upd "k" (.str kv.1 false) ε.vars)).lookup ("name" : Str) = some (.str z g) := by rw [lookup_upd, if_neg (by decide), lookup_upd, if_neg (by decide)]; exact h1
    have k3 : (upd "v" (.str kv.2 false) (upd "k" (.str kv.1 false) ε.vars)).lookup ("default" : Str) = some .none := by rw [lookup_upd, if_neg (by decide), lookup_upd, if_neg (by decide)]; exact h2
    have k4 : (upd "v" (.str kv.2 false) (upd "k" (.str kv.1 false) ε.vars)).lookup ("v" : Str) = some (.str kv.2 false) := by rw [lookup_upd, if_pos rfl]
    obtain ⟨ε₂, e2⟩ : ∃ ε₂ : LEnv, ε₂ = { ε with vars := upd "v" (.str kv.2 false) (upd "k" (.str kv.1 false) ε.vars) } := ⟨_, rfl⟩
    have ho₂ : ε₂.own = none := by rw [e2]; exact ho
    have hT : (evN G 5).T sc ε₂ (.Compare (.Call (.Attribute (.Name "k" p16) "lower" p17) [] [] p18) [.Eq] [.Name "name" p19] p20) = some (loS kv.1 == z) := by
      show ((evN G 4).E sc ε₂ (.Call (.Attribute (.Name "k" p16) "lower" p17) [] [] p18)).bind (fun p => (brw (evN G 4) sc ε₂ (.Name "name" p19)).bind fun q => cmpV .Eq p q) = _
      rw [lower_E (g := false) (by decide) (by rw [e2]; exact k1) ha.1 hl, Option.bind_some, brw_plain ho₂, name_E (by decide) (by rw [e2]; exact k2), Option.bind_some]
      rfl
    have hS : (evN G 6).S sc ε₂ [.If (.Compare (.Call (.Attribute (.Name "k" p16) "lower" p17) [] [] p18) [.Eq] [.Name "name" p19] p20) [.Return (some (.Name "v" p21)) p22] [] p23] = some (ε₂, if loS kv.1 == z then .ret (.str kv.2 false) else .next) := by
      show (((evN G 5).T sc ε₂ (.Compare (.Call (.Attribute (.Name "k" p16) "lower" p17) [] [] p18) [.Eq] [.Name "name" p19] p20)).bind fun c => (evN G 5).S sc ε₂ (if c then [.Return (some (.Name "v" p21)) p22] else [])).bind _ = _
      rw [hT, Option.bind_some]
      cases loS kv.1 == z with
      | true =>
        rw [if_pos rfl, if_pos rfl]
        have : (evN G 5).S sc ε₂ [.Return (some (.Name "v" p21)) p22] = some (ε₂, .ret (.str kv.2 false)) := by
          show (retS (evN G 4) sc ε₂ (.Name "v" p21)).bind _ = _
          rw [retS_plain ho₂, name_E (by decide) (by rw [e2]; exact k4)]
          rfl
        rw [this]; rfl
      | false =>
        rw [if_neg Bool.false_ne_true, if_neg Bool.false_ne_true]
        rfl
    show ∃ ε', ((bindT sc ε (.Tuple [.Name "k" p11, .Name "v" p12] kk p13) (.tup [.str kv.1 false, .str kv.2 false])).bind _) = _ ∧ _
    rw [hb, Option.bind_some, ← e2, hS, Option.bind_some]
    unfold hit?
    rw [List.find?_cons]
    cases hq : loS kv.1 == z with
    | true => exact ⟨ε₂, rfl, by rw [e2]; exact k3, ho₂⟩
    | false =>
      obtain ⟨ε', a1, a2, a3⟩ := get_loop (G := G) (p11 := p11) (p12 := p12) (p13 := p13) (p16 := p16) (p19 := p19) (p20 := p20) (p21 := p21) (p22 := p22) (p23 := p23) (kk := kk) hn hl r ε₂ ho₂ (by rw [e2]; exact k2) (by rw [e2]; exact k3) ha.2
      exact ⟨ε', a1, a2, a3⟩

section
variable {prog : Program} {w : World} {A : Around} {E : Value → Shared → Prop} {s : Shared} {K : Frag} {C fget fkeys fitems fconv finit : Addr} {mg mb : Str → Option Value}
variable {dct : Obj → List (Str × Str) → Prop} {sset : Obj → List Str → Prop} {base : Heap → Prop} {N : Addr → Prop}

theorem method_kw1 {o arg value : Expr} {m kn : Str} {ap pos kp : Pos} {env : Env} {Q : Value → Shared → Prop} (hb : isBad arg = false) (hc : (ap.endLine == pos.line && notSuper o) = true)
    (h : wpAny (model prog w) A (eval o env) (fun ov s₁ => ∀ pl, wpAny (model prog w) A (getMethod ov m pl) (fun fx s₂ => wpAny (model prog w) A (callWith pos fx.1 fx.2 (backTo pos (starEach [arg] env)) (backToKw pos (keywordEach [⟨some kn, value, kp⟩] env))) Q E s₂) E s₁) E s) :
    wpAny (model prog w) A (eval (.Call (.Attribute o m ap) [arg] [⟨some kn, value, kp⟩] pos) env) Q E s := by
  rw [Bool.and_eq_true] at hc
  rw [arm_eval_Call, base_of hc.2]
  refine wpAny_bind (wpAny_mono h (fun ov s₁ h₁ => ?_) fun _ _ e => e)
  refine wpAny_bind (wpAny_standAt ?_)
  have he : starEach (arg :: []) env = (false, eval arg env) :: starEach [] env := starEach_cons hb
  have hform : methodCallForm ([arg].length + [(⟨some kn, value, kp⟩ : Keyword)].length) (backTo pos (starEach [arg] env)) (backToKw pos (keywordEach [⟨some kn, value, kp⟩] env)) = true := by
    rw [he]; rfl
  have hpos : methodCallPos true o env ap pos = pure pos := by unfold methodCallPos; simp [hc.1]
  unfold methodCall
  rw [hform]
  refine wpAny_bind (wpAny_holding ?_)
  refine wpAny_mono (h₁ _) (fun fx s₂ h₂ => ?_) fun _ _ q => q
  exact wpAny_bind (wpAny_of_eq hpos h₂)

/-- a call of _convert_string_type on self -/
theorem conv_self {X : ObjW} {N₁ W₁ : Addr → Prop} {env : Env} {ε : LEnv} {x dx a : Addr} {p2 p3 p7 p8 p9 : Pos} {kd : Nat} {b : Bool} {arg : Expr} {Q : Value → Shared → Prop} (H : HdrK K C fget fkeys fitems fconv finit) (B : HB K mg mb fconv s.heap) (hR : A.depth < recursionLimit) (hh : HdrHere s.heap C x dx a)
    (hl : (p3.endLine == p9.line) = true) (e : EnvAt X N₁ W₁ s.heap s.toks env ε) (hv : VarAt s.heap env "self" (.ref x)) (hbad : isBad arg = false)
    (hq : wpAny (model prog w) A (eval arg env) (fun v s₁ => KS s s₁ ∧ ∃ z t, v = .str z t ∧ cleanS z = true ∧ z.length ≤ big ∧ ∀ s', KS s₁ s' → Q (.str z t) s') E s) :
    wpAny (model prog w) A (eval (.Call (.Attribute (.Name "self" p2) "_convert_string_type" p3) [arg] [⟨some "name", .Constant (.bool b) kd p7, p8⟩] p9) env) Q E s := by
  refine method_kw1 hbad (by rw [hl]; rfl) (wpAny_Name (load_var e.kind hv fun pl => meth_of H B.k hh (.inr (.inr (.inr rfl))) ⟨H.conv.1, H.conv.2.1⟩ ?_) (by decide))
  have he : starEach (arg :: []) env = (false, eval arg env) :: starEach [] env := starEach_cons hbad
  refine callWith_KW B.k H.conv.2.2 rfl ?_ (by rw [he]; rfl) he
  refine wpAny_items_cons (wpAny_mono hq (fun v s₁ h₁ => wpAny_items_nil (kwAll_cons (Constant_bool (kwAll_nil ?_)))) fun _ _ q => q) he
  obtain ⟨k₁, z, t, rfl, hc, hl, hQ⟩ := h₁
  exact ⟨B.k.keeps k₁.sub, conv_call (B.conv.keeps k₁.sub) hR hc hl hQ⟩

theorem get_call {fd : FuncData} {body : List Stmt} {l : List (Str × Str)} {v u : Value} {y : Str} {g : Bool} (H : HdrK K C fget fkeys fitems fconv finit) (M : MethIn K fget fd body) (hb : GetBody body) (hn : fd.scope.names = getNames)
    (hbind : ∀ s : Shared, K.In s.heap → ∀ self x, BindsTo s fd ⟨[self, x], []⟩ [(("self" : Str), self), (("name" : Str), x), (("default" : Str), .none)])
    (hR : Room 40 A) (h0 : 0 < s.toks) (nb : ∀ b, N b → (s.heap.get? b).isSome = true) (B : HB K mg mb fconv s.heap) (r : RelV (Xr K C fget fkeys fitems dct sset base) N s.heap s.toks (.hdr l) v)
    (hy : RelV (Xr K C fget fkeys fitems dct sset base) N s.heap s.toks (.str y g) u) (ha : asciiS y = true) (hc : cleanS y = true) (hk : l.all (fun kv => asciiS kv.1) = true) :
    wpAny (model prog w) A (call (.ref fget) [v, u]) (fun u s' => KS s s' ∧ RelV (Xr K C fget fkeys fitems dct sset base) N s'.heap s'.toks (match l.find? (fun kv => loS kv.1 == loS y) with | some kv => .str kv.2 false | none => .none) u) E s := by
  obtain ⟨x, dx, a, vs, n, rfl, hh, hNx, hNa, haa, hl, hrs⟩ := HdrHere.of r
  obtain ⟨o, ho, hd⟩ := M.fn
  obtain ⟨ox, hox, hat⟩ := hh.some
  have hrs := hrs (· = ox)
  have hy' : RelV (Xp (· = ox)) N s.heap s.toks (.str y g) u := RelV.to rfl hy
  have hloc : ∀ q ∈ ([(("self" : Str), Value.ref x), (("name" : Str), u), (("default" : Str), .none)] : List (Str × Value)), fd.scope.names.lookup q.1 = some .local := fun q hq => by
    simp only [List.mem_cons, List.not_mem_nil, or_false] at hq
    rcases hq with rfl | rfl | rfl <;> (rw [hn]; rfl)
  have hrel : RelVs (Xp (· = ox)) N s.heap s.toks [.dct [], .str y g, .none] [.ref x, u, .none] := .cons _ _ _ _ (.dct [] x ox hNx hox ⟨rfl, rfl⟩) (.cons _ _ _ _ hy' (.cons _ _ _ _ .none .nil))
  refine wpAny_call (call_fd (X := Xp (· = ox)) (N := N) (ε := { vars := [(("self" : Str), .dct []), (("name" : Str), .str y g), (("default" : Str), .none)] }) (by have := hR.2.1; omega) (B.k _ _ ho) hd B.conv.lim (codeRec_of B.k M.code) M.is.body (hbind _ B.k _ _) M.is.cell hloc M.is.co M.is.gen M.is.kind M.is.clo M.is.glo M.is.bui (show ([("self" : Str), ("name" : Str), ("default" : Str)]).Nodup by decide) h0 nb (fun y p hp => ?_) rfl fun env s₁ E' hsc k₁ e hv => ?_)
  · exact zip_rel (params := ["self", "name", "default"]) hrel hp
  obtain ⟨p1, p2, p3, p4, p5, p6, p7, p8, p9, p10, p11, p12, p13, p14, p15, p16, p17, p18, p19, p20, p21, p22, p23, p24, p25, p26, kk, kd, hl0, hl1, hl2, rfl⟩ := hb
  have hnm : env.scope.names = getNames := by rw [hsc]; exact hn
  have hloc1 : ∀ {q : Str}, env.scope.names.lookup q = some .local → ∀ {W' : Addr → Prop}, Places W' env q := by
    intro q h W' c hk _
    have hk : env.scope.names.lookup q = some .cell := hk
    rw [h] at hk; cases hk
  have S := plain_sound (· = ox) prog w mg mb
  have hself : VarAt s₁.heap env "self" (.ref x) := hv "self" (.ref x) (List.mem_cons_self ..)
  have hdeep : (A.deeper env).depth < recursionLimit := by
    have := hR.2.1
    show A.depth + 1 < recursionLimit
    omega
  have B₁ := B.keeps k₁.sub
  -- the whole body
  have whole : wpAny (model prog w) (A.deeper env) (execs [.Assign [.Name "name" p1] (.Call (.Attribute (.Name "self" p2) "_convert_string_type" p3) [.Call (.Attribute (.Name "name" p4) "lower" p5) [] [] p6] [⟨some "name", .Constant (.bool true) kd p7, p8⟩] p9) p10,
      .For (.Tuple [.Name "k" p11, .Name "v" p12] kk p13) (.Attribute (.Name "self" p14) "_headers" p15) [.If (.Compare (.Call (.Attribute (.Name "k" p16) "lower" p17) [] [] p18) [.Eq] [.Name "name" p19] p20) [.Return (some (.Name "v" p21)) p22] [] p23] [] p24,
      .Return (some (.Name "default" p25)) p26] env) (fun f s' => ∃ ε', Ends (Xp (· = ox)) (fun b => N b ∨ NewAt s.heap s₁.heap b) (NewAt s.heap s₁.heap) s₁ env ε' (.ret (match l.find? (fun kv => loS kv.1 == loS y) with | some kv => .str kv.2 false | none => .none)) f s') E' s₁ := by
    have l1 : env.scope.names.lookup ("name" : Str) = some .local := by rw [hnm]; rfl
    obtain ⟨ε₂, a1, a2, a3⟩ := get_loop (G := Gp) (sc := env.scope) (p11 := p11) (p12 := p12) (p13 := p13) (p16 := p16) (p17 := p17) (p18 := p18) (p19 := p19) (p20 := p20) (p21 := p21) (p22 := p22) (p23 := p23) (kk := kk) (z := loS y) (g := false) hnm hl2 l
      { vars := [(("self" : Str), .dct []), (("name" : Str), .str (loS y) false), (("default" : Str), .none)] } rfl rfl rfl hk
    refine wpAny_mono (Q := fun f s' => Ends (Xp (· = ox)) (fun b => N b ∨ NewAt s.heap s₁.heap b) (NewAt s.heap s₁.heap) s₁ env ε₂ (.ret (match l.find? (fun kv => loS kv.1 == loS y) with | some kv => .str kv.2 false | none => .none)) f s') ?_ (fun f s' q => ⟨ε₂, q⟩) fun _ _ q => q
    refine ends_seq (ε₁ := { vars := [(("self" : Str), .dct []), (("name" : Str), .str (loS y) false), (("default" : Str), .none)] }) (h₀ := s.heap) e k₁.sub (fun b z => z.1) ?_ fun N' W' s₂ hN₂ ht₂ hs₂ hW₂ e₂ => ?_
    · refine wpAny_Assign_Name (conv_self (X := Xp (· = ox)) H B₁ hdeep (hh.keeps k₁.sub) hl0 e.toEnvAt hself rfl ?_)
      refine wpAny_mono (S 2 |>.E _ _ s₁ _ _ env _ _ (.str (loS y) false) (room_deep hR (by omega)) (B₁.g _) e.toEnvAt (lower_E (g := g) (by decide) rfl ha hl1)) (fun v s₂ h₂ => ?_) fun _ _ q => q
      obtain ⟨k₂, r₂⟩ := h₂
      cases r₂ with | str _ _ t hlen hg =>
      refine ⟨k₂, loS y, t, rfl, clean_lo hc, hlen, fun s₃ k₃ => ?_⟩
      refine store_kept (X := Xp (· = ox)) (p := .str (loS y) false) (ε' := { vars := [(("self" : Str), .dct []), (("name" : Str), .str (loS y) false), (("default" : Str), .none)] }) (e.toEnvAt.ks (k₂.trans k₃)) (.str _ _ _ hlen fun q => nomatch q) (hloc1 l1) (setV_local rfl l1) fun s₄ K => ?_
      exact Ends.ofKept (k₂.trans k₃) K (fun _ q _ => q) (fun _ q => .inl q) (fun _ q => .inl q) e.oc
    · have B₂ := B.keeps hs₂
      obtain ⟨sv, hself₂, hsr⟩ := e₂.vars "self" (.dct []) rfl
      cases hsr with | dct _ b o₂ hNb hob hdb =>
      obtain ⟨-, rfl⟩ := hdb
      have hh₂ := hat s₂.heap b hs₂ hob
      have hN' : ∀ b o, ¬ N b → s.heap.get? b = some o → ¬ N' b := fun b o z q y => by
        rcases hN₂ b y with (y | y) | y
        · exact z y
        · rw [y.1] at q; cases q
        · rw [k₁.sub b o q] at y; cases y
      have ha₂ : s₂.heap.get? a = some (seqO "list" vs n) := hs₂ _ _ haa
      have hit : ∀ (Q : Value → Shared → Prop), (∀ s₃ it, KS s₂ s₃ → Turning prog w (Xp (· = o₂)) N' (.Tuple [.Name "k" p11, .Name "v" p12] kk p13) it (rowsP l) s₂ s₃ → Q it s₃) →
          wpAny (model prog w) (A.deeper env) (eval (.Attribute (.Name "self" p14) "_headers" p15) env) (fun v s₃ => wpAny (model prog w) (A.deeper env) (pyIter v) Q E' s₃) E' s₂ := fun Q hQ => by
        refine attr_self H B₂.k hh₂ e₂.toEnvAt hself₂ ?_
        refine turn_list (N := N') (l := rowsP l) (a := a) (vs := vs) (n := n) e₂.nb (KS.tok (Nat.le_succ _)) ?_ ha₂ ?_ fun s₃ it k T => hQ s₃ it ((KS.tok (s := s₂) (Nat.le_succ _)).trans k) T
        · exact hN' a _ hNa haa
        · exact hrs.tr (fun b o z q => ⟨hN' b o z q, hs₂ b o q⟩) (Nat.le_trans k₁.toks (Nat.le_trans ht₂ (Nat.le_succ _)))
      have loop : wpAny (model prog w) (A.deeper env) (exec (.For (.Tuple [.Name "k" p11, .Name "v" p12] kk p13) (.Attribute (.Name "self" p14) "_headers" p15) [.If (.Compare (.Call (.Attribute (.Name "k" p16) "lower" p17) [] [] p18) [.Eq] [.Name "name" p19] p20) [.Return (some (.Name "v" p21)) p22] [] p23] [] p24) env)
          (fun f s' => Ends (Xp (· = o₂)) N' W' s₂ env ε₂ (hit? l (loS y)) f s') E' s₂ :=
        wpAny_For (hit _ fun s₃ it k₃ T => codeAny_mono (for_loop (S 6) (room_deep hR (by omega)) (B.g _) hs₂ hW₂ e₂ k₃ T a1 (fun x s' => cameBackBy (model prog w) (A.deeper env) env E' x s')) fun r s' q => by cases r <;> exact q) (fold_pure rfl)
      unfold hit? at loop
      cases hf : l.find? (fun kv => loS kv.1 == loS y) with
      | some kv =>
        rw [hf] at loop
        exact ends_ret loop
      | none =>
        rw [hf] at loop
        refine ends_seq (h₀ := s.heap) e₂ hs₂ hW₂ loop fun N₃ W₃ s₃ hN₃ ht₃ hs₃ hW₃ e₃ => ?_
        refine S 6 |>.S _ _ s₃ N₃ W₃ env ε₂ _ ε₂ (.ret .none) s.heap (room_deep hR (by omega)) (B.g _) hs₃ hW₃ e₃ ?_
        show (retS (evN Gp 4) env.scope ε₂ (.Name "default" p25)).bind _ = _
        rw [retS_plain a3, name_E (by decide) a2]
        rfl
  refine wpAny_mono whole (fun f s' h' => ?_) fun _ _ q => q
  obtain ⟨ε', h'⟩ := h'
  obtain ⟨v, rfl⟩ := h'.isRet
  obtain ⟨kk, hr⟩ := h'.back nb k₁
  refine ⟨kk, RelV.to ?_ (hr _ v rfl rfl)⟩
  cases l.find? (fun kv => loS kv.1 == loS y) <;> rfl
end
end Mine
end

section
set_option maxHeartbeats 1000000
open PySem PySem.Calls PyProof.Rows PySem.Spec PySem.Builtin PySem.Builtin.Str PySem.W
namespace Mine

noncomputable def ConvS (x : Str) (b : Bool) (st : Stmt) : Prop := ∃ p24 p25 p26 p27 p28 p29 p30 kd, (p25.endLine == p29.line) = true ∧
  st = .Expr (.Call (.Attribute (.Name "self" p24) "_convert_string_type" p25) [.Name x p26] [⟨some "name", .Constant (.bool b) kd p27, p28⟩] p29) p30
noncomputable def LoopS (ss : List Stmt) : Prop := ∃ s1 s2, ConvS "k" true s1 ∧ ConvS "v" false s2 ∧ ss = [s1, s2]

noncomputable def InitBody (body : List Stmt) : Prop := ∃ p1 p2 p3 p4 p5 p6 p7 p8 p9 p10 p11 p12 p13 p14 p15 p16 p17 p18 p19 p20 p21 p22 p23 p24 p25 kd kd2 kk ra loop, LoopS loop ∧
  body = [.Assign [.Name "headers" p1] (.IfExp (.Compare (.Name "headers" p2) [.IsNot] [.Constant .none kd p3] p4) (.Name "headers" p5) (.List [] p6) p7) p8,
   .If (.Compare (.Call (.Name "type" p9) [.Name "headers" p10] [] p11) [.IsNot] [.Name "list" p12] p13) ra [] p14,
   .Assign [.Attribute (.Name "self" p15) "_headers" p16] (.Name "headers" p17) p18,
   .If (.Constant (.bool true) kd2 p19) [.For (.Tuple [.Name "k" p20, .Name "v" p21] kk p22) (.Name "headers" p23) loop [] p24] [] p25]

abbrev initNames : List (Str × NameKind) := [(("self" : Str), .local), (("headers" : Str), .local), (("k" : Str), .local), (("v" : Str), .local), (("type" : Str), .globalImplicit), (("list" : Str), .globalImplicit), (("TypeError" : Str), .globalImplicit), (("__debug__" : Str), .globalImplicit)]

open Classical in
/-- an evaluator that knows the loop of __init__ alone -/
noncomputable def evI : Ev := ⟨fun _ _ _ => none, fun _ _ _ => none, fun _ ε ss => if LoopS ss ∧ (∃ k g, ε.vars.lookup ("k" : Str) = some (.str k g) ∧ cleanS k = true) ∧ (∃ k g, ε.vars.lookup ("v" : Str) = some (.str k g) ∧ cleanS k = true) ∧ ∃ l, ε.vars.lookup ("self" : Str) = some (.hdr l) then some (ε, .next) else none, fun _ _ => none⟩

theorem evI_loop {sc : Scope} {p1 p2 p3 : Pos} {kk : Nat} {body : List Stmt} {l : List (Str × Str)} (hb : LoopS body) (hk : sc.names.lookup ("k" : Str) = some .local) (hv : sc.names.lookup ("v" : Str) = some .local) :
    ∀ (kvs : List (Str × Str)) (ε : LEnv), ε.own = none → ε.vars.lookup ("self" : Str) = some (.hdr l) → kvs.all (fun kv => cleanS kv.1 && cleanS kv.2) = true →
      ∃ ε', forL evI sc (.Tuple [.Name "k" p1, .Name "v" p2] kk p3) body (rowsP kvs) ε = some (ε', .next)
  | [], ε, _, _, _ => ⟨ε, rfl⟩
  | kv :: r, ε, ho, hs, hc => by
    rw [List.all_cons, Bool.and_eq_true, Bool.and_eq_true] at hc
    obtain ⟨ε₂, e2⟩ : ∃ ε₂ : LEnv, ε₂ = { ε with vars := upd "v" (.str kv.2 false) (upd "k" (.str kv.1 false) ε.vars) } := ⟨_, rfl⟩
    have hbd : bindT sc ε (.Tuple [.Name "k" p1, .Name "v" p2] kk p3) (.tup [.str kv.1 false, .str kv.2 false]) = some ε₂ := by
      show ((setV sc ε "k" (.str kv.1 false)).bind fun ε => setV sc ε "v" (.str kv.2 false)) = _
      rw [setV_local ho hk, Option.bind_some, setV_local (ε := { ε with vars := upd "k" (.str kv.1 false) ε.vars }) ho hv, e2]
    have k1 : ε₂.vars.lookup ("k" : Str) = some (.str kv.1 false) := by rw [e2]; show (upd "v" (.str kv.2 false) (upd "k" (.str kv.1 false) ε.vars)).lookup ("k" : Str) = _; rw [lookup_upd, if_neg (by decide), lookup_upd, if_pos rfl]
    have k2 : ε₂.vars.lookup ("self" : Str) = some (.hdr l) := by rw [e2]; show (upd "v" (.str kv.2 false) (upd "k" (.str kv.1 false) ε.vars)).lookup ("self" : Str) = _; rw [lookup_upd, if_neg (by decide), lookup_upd, if_neg (by decide)]; exact hs
    have k4 : ε₂.vars.lookup ("v" : Str) = some (.str kv.2 false) := by rw [e2]; show (upd "v" (.str kv.2 false) (upd "k" (.str kv.1 false) ε.vars)).lookup ("v" : Str) = _; rw [lookup_upd, if_pos rfl]
    have hS : evI.S sc ε₂ body = some (ε₂, .next) := by
      unfold evI
      exact if_pos ⟨hb, ⟨_, _, k1, hc.1.1⟩, ⟨_, _, k4, hc.1.2⟩, ⟨_, k2⟩⟩
    obtain ⟨ε', ih⟩ := evI_loop (p1 := p1) (p2 := p2) (p3 := p3) (kk := kk) hb hk hv r ε₂ (by rw [e2]; exact ho) k2 hc.2
    refine ⟨ε', ?_⟩
    show ((bindT sc ε (.Tuple [.Name "k" p1, .Name "v" p2] kk p3) (.tup [.str kv.1 false, .str kv.2 false])).bind _) = _
    rw [hbd, Option.bind_some, hS, Option.bind_some]
    exact ih

section
variable {prog : Program} {w : World} {A : Around} {E : Value → Shared → Prop} {s : Shared} {K : Frag} {C fget fkeys fitems fconv finit : Addr} {mg mb : Str → Option Value}
variable {dct : Obj → List (Str × Str) → Prop} {sset : Obj → List Str → Prop} {N : Addr → Prop}

/-- the real kind of object of a row -/
noncomputable abbrev Xh (K : Frag) (C fget fkeys fitems fconv : Addr) (dct : Obj → List (Str × Str) → Prop) (sset : Obj → List Str → Prop) (mg mb : Str → Option Value) : ObjW := Xr K C fget fkeys fitems dct sset (HB K mg mb fconv)

theorem conv_stmt {X : ObjW} {N₁ W₁ : Addr → Prop} {env : Env} {ε : LEnv} {x dx a : Addr} {y z : Str} {b g : Bool} {st : Stmt} {Q : Flow → Shared → Prop} (hst : ConvS y b st) (hyd : (y == ("__debug__" : Str)) = false) (H : HdrK K C fget fkeys fitems fconv finit) (B : HB K mg mb fconv s.heap) (hR : A.depth < recursionLimit) (hh : HdrHere s.heap C x dx a)
    (e : EnvAt X N₁ W₁ s.heap s.toks env ε) (hv : VarAt s.heap env "self" (.ref x)) (hy : ε.vars.lookup y = some (.str z g)) (hz : cleanS z = true) (hQ : ∀ s', KS s s' → Q .next s') :
    wpAny (model prog w) A (exec st env) Q E s := by
  obtain ⟨p24, p25, p26, p27, p28, p29, p30, kd, hl, rfl⟩ := hst
  refine wpAny_Expr ?_ (interactive_no e) rfl
  obtain ⟨v, hvv, hr⟩ := e.vars y _ hy
  cases hr with | str _ _ t hlen hg =>
  exact conv_self H B hR hh hl e hv rfl (wpAny_Name (load_var e.kind hvv ⟨KS.refl s, z, t, rfl, hz, hlen, fun s' k => hQ s' k⟩) hyd)

theorem evI_sound (H : HdrK K C fget fkeys fitems fconv finit) (n : Nat) : Snd prog w (Xh K C fget fkeys fitems fconv dct sset mg mb) Gp mg mb evI n where
  noE := fun _ _ _ _ => rfl
  E := by intro A E s N W env ε e p _ _ _ h; cases h
  U := by intro A E s N W env ε e p u Q _ _ _ _ h _; cases h
  T := by intro A E s N W env ε e b _ _ _ h; cases h
  F := by intro A E s N x fi a ps vs r _ _ _ _ _ _ h _; cases h
  S := by
    intro A E s N W env ε ss ε' fl h₀ hR g hs hW e h
    unfold evI at h
    dsimp only at h
    split at h
    · rename_i hc
      cases h
      obtain ⟨⟨s1, s2, c1, c2, rfl⟩, ⟨k, g1, hk, hkc⟩, ⟨v, g2, hv, hvc⟩, l, hl⟩ := hc
      have B : HB K mg mb fconv s.heap := HB.keeps g.base hs
      obtain ⟨sv, hsv, hsr⟩ := e.vars _ _ hl
      obtain ⟨x, dx, a, vs, n, rfl, hh, -, -, -, -, -⟩ := HdrHere.of hsr
      have hd : A.depth < recursionLimit := by have := hR.2.1; omega
      refine wpAny_execs_cons (conv_stmt c1 (by decide) H B hd hh e.toEnvAt hsv hk hkc fun s₁ k₁ => ?_)
      refine wpAny_execs_cons (conv_stmt c2 (by decide) H (B.keeps k₁.sub) hd (hh.keeps k₁.sub) (e.toEnvAt.ks k₁) (hsv.keeps k₁.sub) hv hvc fun s₂ k₂ => ?_)
      have kk := k₁.trans k₂
      exact wpAny_execs_nil (Ends.from e.nb kk ⟨N, W, s₂.heap, s₂.toks, fun _ q _ => q, fun _ q => .inl q, fun _ q => .inl q, rfl, Nat.le_refl _, fun _ _ _ q => q, fun _ q => q, e.ks kk, trivial⟩)
    · cases h

theorem rows_rel {X : ObjW} {h : Heap} {tk : Nat} : ∀ {l : List PV} {vs : List Value} {kvs : List (Str × Str)}, RelVs X N h tk l vs → asPairs l = some kvs → RelVs X N h tk (rowsP kvs) vs := by
  intro l
  induction l with
  | nil => intro vs kvs r h; cases h; exact r
  | cons p l ih =>
    intro vs kvs r h
    unfold asPairs at h
    split at h
    · rename_i e; cases e
    · rename_i k g1 v g2 r' e
      cases e
      rw [Option.map_eq_some_iff] at h
      obtain ⟨kvs', h', rfl⟩ := h
      cases r with | cons _ u _ us h1 h2 =>
      refine .cons _ _ _ _ ?_ (ih h2 h')
      cases h1 with | tup _ a ws n hN ho hl hr =>
      cases hr with | cons _ u1 _ _ r1 r2 =>
      cases r2 with | cons _ u2 _ _ r2 r3 =>
      cases r3
      cases r1 with | str _ _ t1 l1 g1 =>
      cases r2 with | str _ _ t2 l2 g2 =>
      exact .tup _ a _ n hN ho hl (.cons _ _ _ _ (.str _ _ _ l1 fun q => nomatch q) (.cons _ _ _ _ (.str _ _ _ l2 fun q => nomatch q) .nil))
    · cases h

theorem asPairs_length : ∀ {l : List PV} {kvs : List (Str × Str)}, asPairs l = some kvs → kvs.length = l.length := by
  intro l
  induction l with
  | nil => intro kvs h; cases h; rfl
  | cons p l ih =>
    intro kvs h
    unfold asPairs at h
    split at h
    · rename_i e; cases e
    · rename_i k g1 v g2 r' e
      cases e
      rw [Option.map_eq_some_iff] at h
      obtain ⟨kvs', h', rfl⟩ := h
      rw [List.length_cons, List.length_cons, ih h']
    · cases h
end
end Mine
end

section
set_option maxHeartbeats 1000000
open PySem PySem.Calls PyProof.Rows PySem.Spec PySem.Builtin PySem.Builtin.Str PySem.W
namespace Mine

section
variable {prog : Program} {w : World} {A : Around} {E : Value → Shared → Prop} {s : Shared} {K : Frag} {C fget fkeys fitems fconv finit : Addr} {mg mb : Str → Option Value}
variable {dct : Obj → List (Str × Str) → Prop} {sset : Obj → List Str → Prop} {N : Addr → Prop}

theorem gnd_h (B : HB K mg mb fconv s.heap) : Gnd (Xh K C fget fkeys fitems fconv dct sset mg mb) Gp mg mb s.heap where
  base := B
  cls := fun _ h => nomatch h
  g := (B.g fun _ => True).g
  b := (B.g fun _ => True).b
  lim := (B.g fun _ => True).lim
  konst := fun _ _ h => nomatch h
  fns := fun _ _ h => nomatch h
  bi := (B.g fun _ => True).bi

/-- the last statement of __init__: the loop -/
theorem init_loop {env : Env} {N' W' : Addr → Prop} {ε : LEnv} {hh : Heap} {l : List (Str × Str)} {a : Addr} {vs : List Value} {n : Nat} {p19 p20 p21 p22 p23 p24 p25 : Pos} {kd2 kk : Nat} {loop : List Stmt} (H : HdrK K C fget fkeys fitems fconv finit) (hloop : LoopS loop) (hR : Room 5 A)
    (g : Gnd (Xh K C fget fkeys fitems fconv dct sset mg mb) Gp mg mb hh) (hs : Sub hh s.heap) (hW : ∀ b, W' b → hh.get? b = none) (e : EnvS (Xh K C fget fkeys fitems fconv dct sset mg mb) N' W' s.heap s.toks env ε) (ho : ε.own = none)
    (h1 : ε.vars.lookup ("self" : Str) = some (.hdr l)) (hv : VarAt s.heap env "headers" (.ref a)) (hNa : ¬ N' a) (ha : s.heap.get? a = some (seqO "list" vs n)) (hrs : RelVs (Xh K C fget fkeys fitems fconv dct sset mg mb) N' s.heap s.toks (rowsP l) vs)
    (hk : env.scope.names.lookup ("k" : Str) = some .local) (hvv : env.scope.names.lookup ("v" : Str) = some .local) (hc : l.all (fun kv => cleanS kv.1 && cleanS kv.2) = true) :
    wpAny (model prog w) A (execs [.If (.Constant (.bool true) kd2 p19) [.For (.Tuple [.Name "k" p20, .Name "v" p21] kk p22) (.Name "headers" p23) loop [] p24] [] p25] env) (fun f s' => ∃ ε', Ends (Xh K C fget fkeys fitems fconv dct sset mg mb) N' W' s env ε' .next f s') E s := by
  obtain ⟨ε', hf⟩ := evI_loop (sc := env.scope) (p1 := p20) (p2 := p21) (p3 := p22) (kk := kk) hloop hk hvv l ε ho h1 hc
  have hit : ∀ (Q : Value → Shared → Prop), (∀ s₃ it, KS s s₃ → Turning prog w (Xh K C fget fkeys fitems fconv dct sset mg mb) N' (.Tuple [.Name "k" p20, .Name "v" p21] kk p22) it (rowsP l) s s₃ → Q it s₃) →
      wpAny (model prog w) A (eval (.Name "headers" p23) env) (fun v s₃ => wpAny (model prog w) A (pyIter v) Q E s₃) E s := fun Q hQ => by
    refine wpAny_Name (load_var e.kind hv ?_) (by decide)
    exact turn_list (N := N') (l := rowsP l) (a := a) (vs := vs) (n := n) e.nb (KS.refl s) hNa ha hrs fun s₃ it k T => hQ s₃ it k T
  refine wpAny_execs_cons (wpAny_If (wpAny_isTrue_value (Constant_bool (wpAny_truthy_bool ?_))))
  rw [if_pos rfl]
  refine wpAny_execs_cons (wpAny_For (hit _ fun s₃ it k₃ T => codeAny_mono (for_loop (evI_sound H 5) hR g hs hW e k₃ T hf (fun x s' => cameBackBy (model prog w) A env E x s')) fun r s' q => ?_) (fold_pure rfl))
  cases r with
  | error x => exact q
  | ok f =>
    have := Ends.isNext q
    subst this
    exact wpAny_execs_nil (wpAny_execs_nil ⟨ε', q⟩)

theorem hdr_new {fd : FuncData} {body : List Stmt} {l : List PV} {kvs : List (Str × Str)} {v : Value} (H : HdrK K C fget fkeys fitems fconv finit) (M : MethIn K finit fd body) (hb : InitBody body) (hn : fd.scope.names = initNames)
    (hbind : ∀ s : Shared, K.In s.heap → ∀ self x, BindsTo s fd ⟨[self, x], []⟩ [(("self" : Str), self), (("headers" : Str), x)])
    (hR : Room 40 A) (h0 : 0 < s.toks) (nb : ∀ b, N b → (s.heap.get? b).isSome = true) (B : HB K mg mb fconv s.heap)
    (r : RelV (Xh K C fget fkeys fitems fconv dct sset mg mb) N s.heap s.toks (.lst l) v) (hkv : asPairs l = some kvs) (hc : kvs.all (fun kv => cleanS kv.1 && cleanS kv.2) = true) :
    wpAny (model prog w) A (call (.ref C) [v]) (fun u s' => KS s s' ∧ RelV (Xh K C fget fkeys fitems fconv dct sset mg mb) N s'.heap s'.toks (.hdr kvs) u) E s := by
  obtain ⟨hh, gg, dd, tt, oo⟩ := s
  cases r with | lst _ a vs n hNa ha hlen hrs =>
  refine wpAny_call (make_core (rest := [.ref a]) (kw := []) (makes_of B.k H.makes) (looks_findIn B.k H.init.1) (fun self => bind_fn B.k self (beq_iff_eq.mp H.init.2)) (.inl rfl) ?_)
  have subP : Sub hh ((hh.push emptyDict).push (instObj C hh.objs.size)) := fun b o q => Heap.get?_push_of_some _ (Heap.get?_push_of_some _ q)
  have B₁ : HB K mg mb fconv ((hh.push emptyDict).push (instObj C hh.objs.size)) := B.keeps subP
  obtain ⟨o, ho, hd⟩ := M.fn
  have hloc : ∀ q ∈ ([(("self" : Str), Value.ref (hh.objs.size + 1)), (("headers" : Str), .ref a)] : List (Str × Value)), fd.scope.names.lookup q.1 = some .local := fun q hq => by
    simp only [List.mem_cons, List.not_mem_nil, or_false] at hq
    rcases hq with rfl | rfl <;> (rw [hn]; rfl)
  have hsz : ((hh.push emptyDict).push (instObj C hh.objs.size)).objs.size = hh.objs.size + 2 := by rw [Heap.size_push, Heap.size_push]
  have xdx : (hh.objs.size + 1) ≠ hh.objs.size := by omega
  refine codeAny_call_def (s := ⟨(hh.push emptyDict).push (instObj C hh.objs.size), gg, dd, tt, oo⟩) (by have := hR.2.1; show A.depth + 1 < recursionLimit; omega) (B₁.k _ _ ho) hd B₁.conv.lim (codeRec_of B₁.k M.code) M.is.body (hbind _ B₁.k _ _) M.is.cell hloc (fun h₁ hns keep => ?_) M.is.co M.is.gen M.is.kind
  obtain ⟨p1, p2, p3, p4, p5, p6, p7, p8, p9, p10, p11, p12, p13, p14, p15, p16, p17, p18, p19, p20, p21, p22, p23, p24, p25, kd, kd2, kk, ra, loop, hloop, rfl⟩ := hb
  obtain ⟨env, henv⟩ : ∃ env, env = callEnv fd ((hh.push emptyDict).push (instObj C hh.objs.size)).objs.size finit := ⟨_, rfl⟩
  have eL : env.locals = hh.objs.size + 2 := by rw [henv]; exact hsz
  have eS : env.scope = fd.scope := by rw [henv]; rfl
  have eK : env.scope.kind = .function := by rw [eS]; exact M.is.kind
  have eN : env.scope.names = initNames := by rw [eS]; exact hn
  have eG : env.globals = mainGlobals := by rw [henv]; exact M.is.glo
  have eB : env.builtins = builtinsNs := by rw [henv]; exact M.is.bui
  have eC : env.cells = [] := by rw [henv]; exact M.is.clo
  dsimp only at hns keep ⊢
  rw [hsz, ← eL] at hns
  rw [← henv]
  obtain ⟨m, hm⟩ : ∃ m : Str → Option Value, m = fun x => ([(("self" : Str), Value.ref (hh.objs.size + 1)), (("headers" : Str), .ref a)] : List (Str × Value)).reverse.lookup x := ⟨_, rfl⟩
  rw [← hm] at hns
  have m1 : m "self" = some (.ref (hh.objs.size + 1)) := by rw [hm]; rfl
  have m2 : m "headers" = some (.ref a) := by rw [hm]; rfl
  have F₁ : Fr hh env.locals h₁ m := ⟨hns, fun b o q => keep b o (subP b o q), by rw [eL]; omega⟩
  have gx : ((hh.push emptyDict).push (instObj C hh.objs.size)).get? (hh.objs.size + 1) = some (instObj C hh.objs.size) := by heap_get
  have gd : ((hh.push emptyDict).push (instObj C hh.objs.size)).get? hh.objs.size = some (dictOf [] 0) := by heap_get
  have N₁ : News hh env.locals h₁ [(hh.objs.size + 1, instObj C hh.objs.size), (hh.objs.size, dictOf [] 0)] := by
    intro p hp
    simp only [List.mem_cons, List.not_mem_nil, or_false] at hp
    rcases hp with rfl | rfl
    · exact ⟨keep _ _ gx, by rw [eL]; show hh.objs.size + 1 ≠ hh.objs.size + 2; omega, none_of_size (show hh.objs.size ≤ hh.objs.size + 1 by omega)⟩
    · exact ⟨keep _ _ gd, by rw [eL]; show hh.objs.size ≠ hh.objs.size + 2; omega, none_of_size (Nat.le_refl _)⟩
  have ls : env.kindOf "self" = some .local := by show env.scope.names.lookup _ = _; rw [eN]; rfl
  have lh : env.kindOf "headers" = some .local := by show env.scope.names.lookup _ = _; rw [eN]; rfl
  have lt : env.kindOf "type" = some .globalImplicit := by show env.scope.names.lookup _ = _; rw [eN]; rfl
  have ll : env.kindOf "list" = some .globalImplicit := by show env.scope.names.lookup _ = _; rw [eN]; rfl
  have lk : env.scope.names.lookup ("k" : Str) = some .local := by rw [eN]; rfl
  have lv : env.scope.names.lookup ("v" : Str) = some .local := by rw [eN]; rfl
  -- headers = headers if headers is not None else []
  refine wpAny_execs_cons (wpAny_Assign_Name (PySem.wpAny_IfExp (wpAny_isTrue_Compare1 ?_ rfl)))
  refine wpAny_Name (wpAny_loadName_local eK lh hns m2 (Constant_none (isnot_none_ne (fun q => nomatch q) (wpAny_truthy_bool ?_))))
  rw [if_pos rfl]
  refine wpAny_Name (wpAny_loadName_local eK lh hns m2 ?_)
  refine wpAny_storeName_local lh hns (fun h₂ hn₂ hs₂ => ?_) (by rw [eK]; rfl)
  have F₂ := F₁.set hn₂ hs₂
  have N₂ := N₁.set hs₂
  have B₂ : HB K mg mb fconv h₂ := B.keeps F₂.keep
  have n1 : (fun y => if y = ("headers" : Str) then some (Value.ref a) else m y) "headers" = some (.ref a) := by simp
  have n2 : (fun y => if y = ("headers" : Str) then some (Value.ref a) else m y) "self" = some (.ref (hh.objs.size + 1)) := by
    show (if ("self" : Str) = "headers" then _ else m "self") = _
    rw [if_neg (by decide)]; exact m1
  -- type(headers) is not list
  refine wpAny_execs_cons (wpAny_If (wpAny_isTrue_Compare1 ?_ rfl))
  refine wpAny_bind (Name_function_global eK lt (loadGlobal_builtin (mg := mg) (by rw [eG]; exact B₂.conv.g) B₂.conv.nt.1 (mb := mb) (by rw [eB]; exact B₂.conv.b) B₂.conv.nt.2.2.1 ?_))
  refine PySem.callWith_type rfl (evalArgs_plain (spliced_cons (wpAny_Name (wpAny_loadName_local eK lh hn₂ n1 (spliced_nil ?_)))))
  refine call_type_of (islist (F₂.keep _ _ ha)).typeIs (by decide) ?_
  refine Name_function_global eK ll (loadGlobal_builtin (mg := mg) (by rw [eG]; exact B₂.conv.g) B₂.nl.1 (mb := mb) (by rw [eB]; exact B₂.conv.b) B₂.nl.2 ?_)
  refine isnot_type_same (wpAny_truthy_bool ?_)
  rw [if_neg Bool.false_ne_true]
  refine wpAny_execs_nil ?_
  -- self._headers = headers
  refine wpAny_execs_cons (plainObj_wpAny_Assign_Attribute (wpAny_Name (wpAny_loadName_local eK lh hn₂ n1 (wpAny_Name (wpAny_loadName_local eK ls hn₂ n2 ?_)))))
  have I₂ : InstAt h₂ (hh.objs.size + 1) (instObj C hh.objs.size) C (some (dictOf [] 0)) := InstAt.of_news N₂ (List.mem_cons_self ..) (List.mem_cons_of_mem _ (List.mem_cons_self ..))
  refine set_dict F₂ B.k N₂ I₂ rfl H.sets.1 H.sets.2.1 H.sets.2.2 H.hasDict rfl rfl (.tail xdx (.head fun p hp => nomatch hp)) (by show 1 ≤ 1000; decide) fun h₃ F₃ N₃ => ?_
  dsimp only
  -- the loop
  have lo : ∀ b o, hh.get? b = some o → b ≠ env.locals := fun b o q z => by
    have h : b < hh.objs.size := Heap.lt_size q
    have h2 : b = hh.objs.size + 2 := z.trans eL
    rw [h2] at h
    exact absurd h (Nat.not_lt.mpr (Nat.le_add_right _ _))
  have D₃ := N₃ _ (List.mem_cons_of_mem _ (List.mem_cons_self ..))
  have X₃ := N₃ _ (List.mem_cons_self ..)
  have hNx : ∀ b, hh.objs.size ≤ b → ¬ N b := fun b q z => by
    have := nb b z
    rw [none_of_size q] at this; cases this
  have tr : ∀ {q : List PV} {u : List Value} {tk : Nat}, tt ≤ tk → RelVs (Xh K C fget fkeys fitems fconv dct sset mg mb) N hh tt q u → RelVs (Xh K C fget fkeys fitems fconv dct sset mg mb) (fun b => N b ∨ b = env.locals) h₃ tk q u := fun ht r => r.tr (fun b o z q => ⟨fun y => y.elim z fun y => lo b o q y, F₃.keep b o q⟩) ht
  have hrow := rows_rel hrs hkv
  have hNa' : ¬ (N a ∨ a = env.locals) := fun y => y.elim hNa fun y => lo _ _ ha y
  have B₃ : HB K mg mb fconv h₃ := B.keeps F₃.keep
  have hx' : ¬ (N (hh.objs.size + 1) ∨ hh.objs.size + 1 = env.locals) := fun y => y.elim (hNx _ (by omega)) fun y => by rw [eL] at y; omega
  have hdx' : ¬ (N hh.objs.size ∨ hh.objs.size = env.locals) := fun y => y.elim (hNx _ (Nat.le_refl _)) fun y => by rw [eL] at y; omega
  have rows₃ : ∀ {tk : Nat}, tt ≤ tk → RelVs (Xh K C fget fkeys fitems fconv dct sset mg mb) (fun b => N b ∨ b = env.locals) h₃ tk (rowsP kvs) vs := fun ht => tr ht hrow
  have rl : ∀ {tk : Nat}, tt ≤ tk → RelV (Xh K C fget fkeys fitems fconv dct sset mg mb) (fun b => N b ∨ b = env.locals) h₃ tk (.lst (rowsP kvs)) (.ref a) := fun ht => .lst _ a vs n hNa' (F₃.keep _ _ ha) (by rw [List.length_map, asPairs_length hkv]; exact hlen) (rows₃ ht)
  have rh : ∀ {tk : Nat}, tt ≤ tk → RelV (Xh K C fget fkeys fitems fconv dct sset mg mb) (fun b => N b ∨ b = env.locals) h₃ tk (.hdr kvs) (.ref (hh.objs.size + 1)) := fun ht =>
    .hdr kvs _ hh.objs.size a _ _ hx' hdx' X₃.1 ⟨rfl, rfl, rfl⟩ D₃.1 ⟨_, _, rfl, rfl, rfl, rfl, rfl, rfl⟩ (rl ht)
  have e₃ : ∀ {tk : Nat}, tt ≤ tk → EnvS (Xh K C fget fkeys fitems fconv dct sset mg mb) (fun b => N b ∨ b = env.locals) (fun b => b = env.locals) h₃ tk env { vars := [(("self" : Str), .hdr kvs), (("headers" : Str), .lst (rowsP kvs))] } := fun ht =>
    { tp := Nat.lt_of_lt_of_le h0 ht
      wn := fun b z => .inr z
      kind := eK
      glo := eG
      bui := eB
      ns := ⟨_, F₃.ns⟩
      nL := rfl
      nC := fun x c h => by rw [eC] at h; cases h
      cell := fun x h => by
        have h : env.scope.names.lookup x = some .cell := h
        rw [eS] at h
        exact absurd rfl (M.is.cell _ (mem_of_lookup h))
      inj := fun x y c h => by rw [eC] at h; cases h
      ck := fun x c h => by rw [eC] at h; cases h
      nb := fun b z => by
        rcases z with z | z
        · obtain ⟨o, ho⟩ := Option.isSome_iff_exists.mp (nb b z)
          rw [F₃.keep b o ho]; rfl
        · obtain ⟨o, _, _, ho, _⟩ := F₃.ns
          rw [z, ho]; rfl
      vars := fun x p h => by
        rw [List.lookup_cons] at h
        split at h
        · rename_i hx
          cases h
          rw [beq_iff_eq.mp hx]
          exact ⟨_, .inl ⟨ls, _, F₃.ns, n2⟩, rh ht⟩
        · rw [List.lookup_cons] at h
          split at h
          · rename_i hx
            cases h
            rw [beq_iff_eq.mp hx]
            exact ⟨_, .inl ⟨lh, _, F₃.ns, n1⟩, rl ht⟩
          · cases h
      own := fun x l h => nomatch h
      oc := fun x c h => by rw [eC] at h; cases h }
  have hR₅ : Room 5 ((A.under (.builtin "type.__call__" ⟨.ref C :: [.ref a], []⟩)).deeper env) := by
    refine ⟨hR.1, ?_, ?_⟩
    · have := hR.2.1
      show A.depth + 1 + 1 + 5 + 10 < recursionLimit
      omega
    · have := hR.2.2
      show A.units + 1 + 3 + 20 * 5 + 100 < cLine
      omega
  have htt : tt ≤ tt + 2 + 1 + 2 := by omega
  refine wpAny_mono (init_loop (s := ⟨h₃, gg, dd, tt + 2 + 1 + 2, oo⟩) (p19 := p19) (p20 := p20) (p21 := p21) (p22 := p22) (p23 := p23) (p24 := p24) (p25 := p25) (kd2 := kd2) (kk := kk) H hloop hR₅ (gnd_h B) F₃.keep (fun b z => by rw [z, eL]; exact none_of_size (Nat.le_add_right _ _)) (e₃ htt) rfl rfl
    (.inl ⟨lh, _, F₃.ns, n1⟩) hNa' (F₃.keep _ _ ha) (rows₃ htt) lk lv hc) (fun f s' h' => ?_) fun _ _ q => q
  obtain ⟨ε', h'⟩ := h'
  have := h'.isNext
  subst this
  obtain ⟨N'', W'', h₄, tk₄, b1, b2, b3, rfl, b5, b6, b7, e₄, _⟩ := h'
  refine ⟨rfl, ⟨h₄, tk₄, rfl, fun b o q => b6 b o (lo b o q) (F₃.keep b o q), Nat.le_trans htt b5⟩, ?_⟩
  · exact (rh htt).tr (fun b o z q => ⟨fun y => z (.inl y), b6 b o (fun y => z (.inr y)) q⟩) b5
end
end Mine
end

section
set_option maxHeartbeats 1000000
open PySem PySem.Calls PyProof.Rows PySem.Spec PySem.Builtin PySem.Builtin.Str PySem.W
namespace Mine

theorem cell_of {l : List (Str × NameKind)} (h : l.all (fun x => !(x.2 == NameKind.cell)) = true) : ∀ x ∈ l, x.2 ≠ .cell := fun x hx e => by
  have := List.all_eq_true.mp h x hx
  rw [e] at this
  cases this

/-- all that is read of Headers in the fragment -/
structure HdrAll (K : Frag) (C fget fkeys fitems fconv finit : Addr) : Prop where
  H : HdrK K C fget fkeys fitems fconv finit
  get : ∃ fd body, MethIn K fget fd body ∧ GetBody body ∧ fd.scope.names = getNames ∧ ∀ s : Shared, K.In s.heap → ∀ self x, BindsTo s fd ⟨[self, x], []⟩ [(("self" : Str), self), (("name" : Str), x), (("default" : Str), .none)]
  keys : ∃ fd body, MethIn K fkeys fd body ∧ KeysBody body ∧ fd.scope.names = [(("self" : Str), .local)] ∧ ∀ self, bindArgs fd ⟨[self], []⟩ = pure [(("self" : Str), self)]
  items : ∃ fd body, MethIn K fitems fd body ∧ ItemsBody body ∧ fd.scope.names = [(("self" : Str), .local)] ∧ ∀ self, bindArgs fd ⟨[self], []⟩ = pure [(("self" : Str), self)]
  init : ∃ fd body, MethIn K finit fd body ∧ InitBody body ∧ fd.scope.names = initNames ∧ ∀ s : Shared, K.In s.heap → ∀ self x, BindsTo s fd ⟨[self, x], []⟩ [(("self" : Str), self), (("headers" : Str), x)]

theorem mk_get {m : Str} {k : MK} (h : mkOf m = some k) : (k = .get → m = "get") ∧ (k = .keys → m = "keys") ∧ (k = .items → m = "items") := by
  unfold mkOf at h
  have := mem_of_lookup h
  simp only [List.mem_cons, List.not_mem_nil, or_false, Prod.mk.injEq] at this
  refine ⟨?_, ?_, ?_⟩ <;> (rintro rfl; rcases this with ⟨a, b⟩ | ⟨a, b⟩ | ⟨a, b⟩ | ⟨a, b⟩ | ⟨a, b⟩ | ⟨a, b⟩ | ⟨a, b⟩ | ⟨a, b⟩ | ⟨a, b⟩ | ⟨a, b⟩ | ⟨a, b⟩ | ⟨a, b⟩ | ⟨a, b⟩ <;> first | exact a | cases b)

section
variable {prog : Program} {w : World} {K : Frag} {C fget fkeys fitems fconv finit : Addr} {mg mb : Str → Option Value}
variable {dct : Obj → List (Str × Str) → Prop} {sset : Obj → List Str → Prop}

/-- contracts of the sets and dicts of a row -/
structure SetsOk (prog : Program) (w : World) (dct : Obj → List (Str × Str) → Prop) (sset : Obj → List Str → Prop) : Prop where
  inS : ∀ (A : Around) (E : Value → Shared → Prop) (s : Shared) (x : Str) (t : Tok) (a : Addr) (o : Obj) (l : List Str) (Q : Value → Shared → Prop), s.heap.get? a = some o → sset o l → (∀ tk, Q (.bool (l.any (· == x))) { s with toks := tk }) →
    wpAny (model prog w) A (compareOp .In (.str x t) (.ref a)) Q E s
  getD : ∀ (A : Around) (E : Value → Shared → Prop) (s : Shared) (x y : Str) (t : Tok) (a : Addr) (o : Obj) (l : List (Str × Str)) (value slice : Expr) (Q : Value → Shared → Prop), s.heap.get? a = some o → dct o l → l.lookup x = some y →
    (∀ t' tk, y.length ≤ big → Q (.str y t') { s with toks := tk }) → wpAny (model prog w) A (subscriptTail value slice (.ref a) (.str x t)) Q E s
  lenS : ∀ (A : Around) (E : Value → Shared → Prop) (s : Shared) (a : Addr) (o : Obj) (l : List Str) (Q : Value → Shared → Prop), s.heap.get? a = some o → sset o l → (∀ t' tk, Q (.int l.length t') { s with toks := tk }) →
    wpAny (model prog w) A (call (.builtin "len") [.ref a]) Q E s

theorem sets_none (prog : Program) (w : World) : SetsOk prog w (fun _ _ => False) (fun _ _ => False) :=
  ⟨fun _ _ _ _ _ _ _ _ _ _ h => h.elim, fun _ _ _ _ _ _ _ _ _ _ _ _ _ h => h.elim, fun _ _ _ _ _ _ _ _ h => h.elim⟩

theorem str1_some {ps : List PV} {y : Str} (h : str1 ps = some y) : ∃ g, ps = [.str y g] := by
  cases ps with
  | nil => exact no_some h
  | cons p r => cases p with
    | str x g => cases r with
      | nil => obtain rfl := Option.some.inj h; exact ⟨g, rfl⟩
      | cons => exact no_some h
    | _ => exact no_some h

theorem xr_ok (D : SetsOk prog w dct sset) (H : HdrAll K C fget fkeys fitems fconv finit) : XOk prog w (Xh K C fget fkeys fitems fconv dct sset mg mb) where
  inS := D.inS
  getD := D.getD
  lenS := D.lenS
  baseK := fun _ _ b k => HB.keeps b k
  keep := fun f h hf _ hb => by
    have X : K.In h := HB.k hb
    rcases hf with rfl | rfl | rfl | rfl
    · exact keeps_K H.H.keepC h X
    · exact keeps_K H.H.get.2.2 h X
    · exact keeps_K H.H.keys.2.2 h X
    · exact keeps_K H.H.items.2.2 h X
  ia := fun _ _ _ => trivial
  hdrM := fun A E s N l v m k pl Q hb r hm hk hq => by
    have X : K.In s.heap := HB.k hb
    obtain ⟨x, dx, a, vs, n, rfl, hh, -, -, -, -, -⟩ := HdrHere.of r
    have e := mk_get hm
    rcases hk with rfl | rfl | rfl
    · exact meth_of H.H X hh (.inl (e.1 rfl)) (by rw [e.1 rfl]; exact ⟨H.H.get.1, H.H.get.2.1⟩) (hq s.toks)
    · exact meth_of H.H X hh (.inr (.inl (e.2.1 rfl))) (by rw [e.2.1 rfl]; exact ⟨H.H.keys.1, H.H.keys.2.1⟩) (hq s.toks)
    · exact meth_of H.H X hh (.inr (.inr (.inl (e.2.2 rfl)))) (by rw [e.2.2 rfl]; exact ⟨H.H.items.1, H.H.items.2.1⟩) (hq s.toks)
  hdrCall := fun A E s N l v k ps vs r hR hlim h0 nb hb rv rs h => by
    have B : HB K mg mb fconv s.heap := hb
    cases k with
    | get =>
      obtain ⟨y, hy, h⟩ := Option.bind_eq_some_iff.mp h
      obtain ⟨hc, rfl⟩ := if_some h
      rw [Bool.and_eq_true, Bool.and_eq_true] at hc
      obtain ⟨g, rfl⟩ := str1_some hy
      apply rs.consC; intro u us r1 r2
      apply r2.nilC
      obtain ⟨fd, body, M, hbody, hn, hbind⟩ := H.get
      exact get_call H.H M hbody hn hbind hR h0 nb B rv r1 hc.1.1 hc.1.2 hc.2
    | keys => cases ps with
      | nil =>
        obtain ⟨hl, rfl⟩ := if_some h
        apply rs.nilC
        obtain ⟨fd, body, M, hbody, hn, hbind⟩ := H.keys
        exact keys_call H.H M hbody hn hbind hR h0 nb B hl rv
      | cons => exact no_some h
    | items => cases ps with
      | nil =>
        obtain rfl := Option.some.inj h
        apply rs.nilC
        obtain ⟨fd, body, M, hbody, hn, hbind⟩ := H.items
        exact items_call H.H M hbody hn hbind hR h0 nb B rv
      | cons => exact no_some h
    | _ => exact no_some h
  hdrNew := fun A E s N l kvs v _ hR hlim h0 nb hb r hk hc => by
    obtain ⟨fd, body, M, hbody, hn, hbind⟩ := H.init
    exact hdr_new H.H M hbody hn hbind hR h0 nb hb r hk hc
end
end Mine
end

section
set_option maxHeartbeats 1000000
open PySem PySem.Calls PyProof.Rows PySem.Spec PySem.Builtin PySem.Builtin.Str PySem.W
namespace Mine

/-- what is known of the state in which law is called -/
structure Start (K : Frag) (mg mb : Str → Option Value) (h : Heap) : Prop where
  k : K.In h
  g : h.Ns mainGlobals mg
  b : h.Ns builtinsNs mb
  lim : h.NoLimit
  bi : ∀ x : Str, x ≠ "__name__" → mb x = bootBuiltins x

noncomputable def bkNames : List (Str × BK) := [("len", .len), ("sum", .sum), ("sorted", .sorted), ("ord", .ord), ("chr", .chr), ("abs", .abs), ("int", .int), ("divmod", .divmod), ("range", .range), ("zip", .zip), ("enumerate", .enumerate)]

theorem bi_boot : ∀ p ∈ bkNames, bootBuiltins p.1 = some (bkVal p.2) ∧ p.1 ≠ "__name__" := by
  intro p hp
  unfold bkNames at hp
  simp only [List.mem_cons, List.not_mem_nil, or_false] at hp
  rcases hp with rfl | rfl | rfl | rfl | rfl | rfl | rfl | rfl | rfl | rfl | rfl <;> exact ⟨rfl, by decide⟩

variable {K : Frag} {mg mb : Str → Option Value} {h : Heap}

theorem Start.get (S : Start K mg mb h) {x : Str} {v : Value} (e : nsIn K mainGlobals x = some (some v)) : mg x = some v := mg_of S.k S.g e
theorem Start.no (S : Start K mg mb h) {x : Str} (e : nsIn K mainGlobals x = some none) : mg x = none := mg_none_of S.k S.g e

theorem Start.bis (S : Start K mg mb h) (e : ∀ p ∈ bkNames, nsIn K mainGlobals p.1 = some none) {x : Str} {k : BK} (hx : bkOf x = some k) : mg x = none ∧ mb x = some (bkVal k) := by
  have hm : (x, k) ∈ bkNames := mem_of_lookup hx
  have a := bi_boot _ hm
  exact ⟨S.no (e _ hm), (S.bi x a.2).trans a.1⟩

/-- the functions of the text, in the fragment -/
noncomputable def FnsIn (K : Frag) : List (Str × FnI) → Prop
  | [] => True
  | (x, fi) :: r => (∃ a o args pm code doc, nsIn K mainGlobals x = some (some (.ref a)) ∧ K.lookup a = some o ∧ o.data = .func (docDef x ⟨[], args, none, [], [], none, []⟩ fi.body fi.scope pm code doc) ∧ codeIn K code x = true ∧ args.map (·.arg) = fi.params ∧ fnOk fi = true) ∧ FnsIn K r

theorem Start.fns (S : Start K mg mb h) : ∀ {fns : List (Str × FnI)}, FnsIn K fns → ∀ x fi, (x, fi) ∈ fns → ∃ a, mg x = some (.ref a) ∧ FnAt h x fi a
  | [], _, _, _, hm => nomatch hm
  | (y, gi) :: r, H, x, fi, hm => by
    rcases List.mem_cons.mp hm with e | hm
    · cases e
      obtain ⟨a, o, args, pm, code, doc, h1, h2, h3, h4, h5, h6⟩ := H.1
      exact ⟨a, S.get h1, o, args, pm, code, doc, S.k _ _ h2, h3, codeRec_of S.k h4, h5, h6⟩
    · exact S.fns H.2 x fi hm

theorem Start.plain (S : Start K mg mb h) (e : ∀ p ∈ bkNames, nsIn K mainGlobals p.1 = some none) (P : Obj → Prop) : Gnd (Xp P) Gp mg mb h where
  base := trivial
  cls := fun _ h => nomatch h
  g := S.g
  b := S.b
  lim := S.lim
  konst := fun _ _ h => nomatch h
  fns := fun _ _ h => nomatch h
  bi := fun x k hx _ => S.bis e hx

/-- what the fragment must say of the law -/
structure LawIn (K : Frag) (G : GCtx) (C fget fkeys fitems fconv finit : Addr) : Prop where
  hdr : HdrAll K C fget fkeys fitems fconv finit
  bks : ∀ p ∈ bkNames, nsIn K mainGlobals p.1 = some none
  fns : FnsIn K G.fns
  cls : G.hdr = some "Headers" ∧ nsIn K mainGlobals "Headers" = some (some (.ref C))
  konst : G.consts = [(("ELLIPSIS_MARKER" : Str), .str "..." false)] ∧ ∃ t, nsIn K mainGlobals "ELLIPSIS_MARKER" = some (some (.str "..." t))
  conv : ∃ o fd body, K.lookup fconv = some o ∧ o.data = .func fd ∧ FdIs fd body ∧ ConvBody body ∧ codeIn K fd.code fd.qualname = true ∧
    (fd.scope.names.lookup ("self" : Str) = some .local ∧ fd.scope.names.lookup ("value" : Str) = some .local ∧ fd.scope.names.lookup ("name" : Str) = some .local ∧ fd.scope.names.lookup ("regex" : Str) = some .local) ∧
    (fd.scope.names.lookup ("type" : Str) = some .globalImplicit ∧ fd.scope.names.lookup ("str" : Str) = some .globalImplicit ∧ fd.scope.names.lookup ("_name_disallowed_re" : Str) = some .globalImplicit ∧ fd.scope.names.lookup ("_value_disallowed_re" : Str) = some .globalImplicit) ∧
    ∀ self x t b, bindArgs fd ⟨[self, .str x t], [("name", .bool b)]⟩ = pure [(("self" : Str), self), (("value" : Str), .str x t), (("name" : Str), .bool b)]
  more : nsIn K mainGlobals "type" = some none ∧ nsIn K mainGlobals "str" = some none ∧ nsIn K mainGlobals "list" = some none
  pats : ∃ r1 r2, nsIn K mainGlobals "_name_disallowed_re" = some (some (.ref r1)) ∧ nsIn K mainGlobals "_value_disallowed_re" = some (some (.ref r2)) ∧ (∀ h, K.In h → PatAt h r1) ∧ ∀ h, K.In h → PatAt h r2

theorem boot_type : bootBuiltins "type" = some (.type "type") := by rfl
theorem boot_str : bootBuiltins "str" = some (.type "str") := by rfl
theorem boot_list : bootBuiltins "list" = some (.type "list") := by rfl

section
variable {G : GCtx} {C fget fkeys fitems fconv finit : Addr} {dct : Obj → List (Str × Str) → Prop} {sset : Obj → List Str → Prop}

theorem Start.hb (S : Start K mg mb h) (L : LawIn K G C fget fkeys fitems fconv finit) : HB K mg mb fconv h where
  k := S.k
  conv := {
    fn := by
      obtain ⟨o, fd, body, a1, a2, a3, a4, a5, a6, a7, a8⟩ := L.conv
      exact ⟨o, fd, body, S.k _ _ a1, a2, a3, a4, codeRec_of S.k a5, a6, a7, a8⟩
    g := S.g
    b := S.b
    lim := S.lim
    nt := ⟨S.no L.more.1, S.no L.more.2.1, (S.bi _ (by decide)).trans boot_type, (S.bi _ (by decide)).trans boot_str⟩
    pats := by
      obtain ⟨r1, r2, a1, a2, a3, a4⟩ := L.pats
      exact ⟨r1, r2, S.get a1, S.get a2, a3 h S.k, a4 h S.k⟩ }
  g := S.plain L.bks
  nl := ⟨S.no L.more.2.2, (S.bi _ (by decide)).trans boot_list⟩

theorem Start.gnd (S : Start K mg mb h) (L : LawIn K G C fget fkeys fitems fconv finit) : Gnd (Xh K C fget fkeys fitems fconv dct sset mg mb) G mg mb h where
  base := S.hb L
  cls := fun g hg => by
    rw [L.cls.1] at hg
    cases hg
    exact ⟨S.get L.cls.2, trivial⟩
  g := S.g
  b := S.b
  lim := S.lim
  konst := fun x p hx => by
    rw [L.konst.1] at hx
    obtain ⟨t, ht⟩ := L.konst.2
    rw [List.lookup_cons] at hx
    split at hx
    · rename_i e
      cases hx
      rw [beq_iff_eq.mp e]
      exact ⟨_, S.get ht, fun N h tk => .str _ _ _ (by decide) fun q => nomatch q⟩
    · cases hx
  fns := fun x fi hx => S.fns L.fns x fi (mem_of_lookup hx)
  bi := fun x k hx _ => S.bis L.bks hx
end
end Mine
end

section
set_option maxHeartbeats 2000000
open PySem PySem.Calls PyProof.Rows PySem.Spec PySem.Builtin PySem.Builtin.Str PySem.W
namespace Mine

/-- a set of texts -/
noncomputable def SetO (prog : Program) (w : World) (o : Obj) (l : List Str) : Prop := o.SetObjOf (strKind prog w) (fun x => l.any (· == x)) l.length ∧ l.length ≤ 64

theorem any_or {l : List Str} {x : Str} : (fun k' => l.any (· == k') || decide (k' = x)) = fun k' => (l ++ [x]).any (· == k') := by
  funext k
  rw [List.any_append]
  congr 1
  simp only [List.any_cons, List.any_nil, Bool.or_false]
  by_cases h : k = x
  · rw [h]; simp
  · rw [decide_eq_false h, beq_eq_false_iff_ne.mpr (Ne.symm h)]
theorem any_in {l : List Str} {x : Str} (h : l.any (· == x) = true) : (fun k' => l.any (· == k') || decide (k' = x)) = fun k' => l.any (· == k') := by
  funext k
  by_cases e : k = x
  · rw [e, h]; rfl
  · rw [decide_eq_false e, Bool.or_false]

section
variable {prog : Program} {w : World} {X : ObjW} {G : GCtx} {mg mb : Str → Option Value} {ev : Ev} {n : Nat}
variable {A : Around} {E : Value → Shared → Prop} {s s₁ s₂ : Shared} {N W : Addr → Prop} {env : Env} {ε ε' : LEnv} {tgt : Expr}

theorem compTurn_set (elt target iter : Expr) (ifs : List Expr) (scope : Scope) (pos : Pos) (it acc : Value) (env : Env) :
    compTurn (.SetComp elt [⟨target, iter, ifs, 0⟩] scope pos) 0 it acc env = (do
      standAt iter.pos
      match ← pyNext it with
      | none => pure (.done .next)
      | some v =>
        letOwnedTupleGo target it v
        assign target env v
        let mut ok := true
        for c in ifs do
          if ok then ok ← isTrue c env (eval c env)
        if ok then
          (do
            let v ← eval elt env
            standAt elt.pos
            let _ ← call (.builtin "set.add") [acc, v])
        again (.compLoop (.SetComp elt [⟨target, iter, ifs, 0⟩] scope pos) 0 it acc env)) := by rfl

theorem compStart_set {elt target iter : Expr} {ifs : List Expr} {rest : List Comprehension} {scope : Scope} {pos : Pos} {it acc : Value} {env : Env} {R : Result → Shared → Prop}
    (h0 : codeAny (model prog w) A (.compLoop (.SetComp elt (⟨target, iter, ifs, 0⟩ :: rest) scope pos) 0 it acc env) R s)
    (h : wpAny (model prog w) A (pyIter it) (fun it' s' => codeAny (model prog w) A (.compLoop (.SetComp elt (⟨target, iter, ifs, 0⟩ :: rest) scope pos) 0 it' acc env) R s')
      (notedBy (model prog w) A env fun x s' => R (.error x) s') s) :
    codeAny (model prog w) A (.compStart (.SetComp elt (⟨target, iter, ifs, 0⟩ :: rest) scope pos) 0 it acc env) R s := by
  refine codeAny_of_tree ?_
  show wpAny _ A ((compStart (.SetComp elt (⟨target, iter, ifs, 0⟩ :: rest) scope pos) 0 it acc env).onRaise (fun x => do noteFrame x env; standAt theWindowsPlace)) _ _ s
  refine wpAny_notedAt ?_
  unfold compStart
  show wpAny _ A (ask >>= _) _ _ s
  refine wpAny_bind (wpAny_askSetting (wpAny_ite ?_))
  split
  · first
      | exact wpAny_bind (wpAny_pure (wpAny_pure (And.intro rfl h0)))
      | exact wpAny_pure (And.intro rfl h0)
  · first
      | exact wpAny_bind (wpAny_rule (wpAny_bind (wpAny_standAt (wpAny_bind (wpAny_mono h (fun it' s' h' => wpAny_pure (And.intro rfl h')) fun _ _ x => x)))))
      | (refine wpAny_bind (wpAny_rule ?_); show wpAny _ _ (standAt iter.pos >>= _) _ _ s; exact wpAny_bind (wpAny_standAt (wpAny_bind (wpAny_mono h (fun it' s' h' => wpAny_pure (And.intro rfl h')) fun _ _ x => x))))

theorem set_loop {elt target iter : PySem.Expr} {scope : Scope} {pos : Pos} {it acc : Value} {env : Env} {R : Result → Shared → Prop} (I : Nat → Shared → Prop)
    (turn : ∀ (n : Nat) (s : Shared) (E : Value → Shared → Prop), I n s → wpAny (model prog w) A (pyNext it) (fun r s₁ => match r with
      | none => R (.ok .next) s₁
      | some v => wpAny (model prog w) A (letOwnedTupleGo target it v) (fun _ s₀ => wpAny (model prog w) A (assign target env v) (fun _ s₃ =>
          wpAny (model prog w) A (eval elt env) (fun x s₄ =>
            wpAny (model prog w) A (call (.builtin "set.add") [acc, x]) (fun _ s₅ => ∃ m, m < n ∧ I m s₅) E s₄) E s₃) E s₀) E s₁) E s)
    (n : Nat) (h : I n s) : codeAny (model prog w) A (.compLoop (.SetComp elt [⟨target, iter, [], 0⟩] scope pos) 0 it acc env) R s := by
  refine codeAny_loop rfl I (fun n s hI => ?_) n h
  show wpAny _ A ((compTurn (.SetComp elt [⟨target, iter, [], 0⟩] scope pos) 0 it acc env).onRaise (fun x => do noteFrame x env; theTreesLotGoes x)) _ _ s
  refine wpAny_noted ?_
  rw [compTurn_set]
  refine wpAny_bind (wpAny_standAt (wpAny_bind (wpAny_mono (turn n s _ hI) (fun r s₁ h₁ => ?_) fun _ _ h' => h')))
  cases r with
  | none => exact wpAny_pure h₁
  | some v =>
    refine wpAny_bind (wpAny_mono h₁ (fun _ s₀ h₀' => ?_) fun _ _ h' => h')
    refine wpAny_bind (wpAny_mono h₀' (fun _ s₃ h₃ => ?_) fun _ _ h' => h')
    refine wpAny_bind (wpAny_tests_nil ?_)
    rw [if_pos rfl]
    exact wpAny_bind (wpAny_bind (wpAny_mono h₃ (fun x s₄ h₄ => wpAny_bind (wpAny_standAt (wpAny_bind (wpAny_mono h₄ (fun _ s₅ h₅ => wpAny_pure (wpAny_pure ⟨rfl, h₅⟩)) fun _ _ h' => h')))) fun _ _ h' => h'))

theorem setComp_it (XO : XOk prog w X) (S : Snd prog w X G mg mb ev n) (hss : X.sset = SetO prog w) (hR : Room n A) {elt iter : Expr} {sc : Scope} {pos cpos : Pos} {ps result : List PV} {ss : List Str} {use : Option (Value → Sem Unit)} {Q : Value → Shared → Prop} (g : Gnd X G mg mb s.heap) (e : EnvAt X N W s.heap s.toks env ε)
    (hc : compOk sc env.scope tgt = true) (hbad : isBad iter = false) (hit : ∀ (Q : Value → Shared → Prop), (∀ s₂ it, KS s s₂ → Turning prog w X N tgt it ps s s₂ → Q it s₂) → wpAny (model prog w) A (eval iter env) (fun v s₁ => wpAny (model prog w) A (pyIter v) Q E s₁) E s) (hlen : ps.length ≤ 64) (h : compE ev (relab sc env.scope) (compEnv sc ε) tgt [] elt ps = some result) (hst : asStrs result = some ss)
    (hfin : ∀ D C m s', KS s s' → s.heap.get? C = none → s'.heap.Ns C m → RelV X (fun b => N b ∨ b = C) s'.heap s'.toks (.sset (dedup [] ss)) (.ref D) → compPost (model prog w) A E use Q (.ref D) C (.ok .next) s') :
    wpAny (model prog w) A (comprehension (.SetComp elt [⟨tgt, iter, [], 0⟩] sc pos) sc env cpos (newSet (.type "set")) false (eval iter env) use) Q E s := by
  have c := compOk_is hc
  have hh := hR.1
  refine wpAny_comprehension_free rfl (fold_pure hbad) (closureFor_pure fun x hx => ?_) c.kind (fun x hx hl => lookup_of_nodup c.nodup (by rw [← hl]; exact hx)) (hit _ fun s₂ it k₂ T => ?_)
  · obtain ⟨d, _, hd, _⟩ := e.cell x (c.free x hx)
    exact ⟨d, hd⟩
  obtain ⟨I, fp, wr, P, Md, St, rfl, KK, hst₀, hfp, hwr, al, self, items⟩ := T
  have K := KK A hh
  refine wpAny_newSet_of (knd := strKind prog w) fun led _ => newEnv_comp ?_
  dsimp only
  generalize hso : ({ cls := .type "set", dict := none, data := .set #[] 0 (.fresh 0 0 led) } : Obj) = so
  have hso0 : SetO prog w so [] := by subst hso; exact ⟨setObjOf_fresh led, by decide⟩
  have hfr : so.isFreed = false := by subst hso; rfl
  generalize h3 : s₂.heap.push so = H₃
  generalize hH : pushCells (H₃.push { cls := .type "dict", data := .dict #[] }) sc.names = H
  obtain ⟨B, I₀, pl, newC, hD0⟩ := block_of (prog := prog) (w := w) (it := .ref I) (ps := ps) (I := I) hfr c e k₂ hst₀ hfp hwr al K.frame h3.symm hH.symm
  show codeAny (model prog w) A (.compStart _ 0 (.ref I) (.ref s₂.heap.objs.size) (cEnv sc env H₃.objs.size)) (compPost (model prog w) A E use Q (.ref s₂.heap.objs.size) H₃.objs.size) { s₂ with heap := H }
  generalize hDD : s₂.heap.objs.size = D at *
  generalize hCC : H₃.objs.size = C at *
  generalize hN' : (fun b => (N b ∨ b ∈ wr ∨ b = D) ∨ NewAt H₃ H b) = N' at *
  have inN : ∀ b, ¬ N' b → ¬ N b ∧ b ∉ wr ∧ b ≠ D ∧ ¬ NewAt H₃ H b := fun b z => by
    subst hN'
    exact ⟨fun q => z (.inl (.inl q)), fun q => z (.inl (.inr (.inl q))), fun q => z (.inl (.inr (.inr q))), fun q => z (.inr q)⟩
  have hnb := e.nb
  have loop : codeAny (model prog w) A (.compLoop (.SetComp elt [⟨tgt, iter, [], 0⟩] sc pos) 0 (.ref I) (.ref D) (cEnv sc env C)) (compPost (model prog w) A E use Q (.ref D) C) { s₂ with heap := H } := by
    refine set_loop (fun m s' => ∃ (i : Nat) (rest : List PV) (acc rs : List Str) (o : Obj), i ≤ ps.length ∧ m = ps.length + 1 - i ∧ LoopInv prog w X N (NewAt H₃ H) (cEnv sc env C) (compEnv sc ε) s s₂ wr D St i s' ∧
      s'.heap.get? D = some o ∧ SetO prog w o acc ∧ acc.length ≤ i ∧ compE ev (relab sc env.scope) (compEnv sc ε) tgt [] elt (ps.drop i) = some rest ∧ asStrs rest = some rs ∧ dedup [] ss = dedup acc rs) ?_ (ps.length + 1) ⟨0, result, [], ss, so, Nat.zero_le _, rfl, I₀, hD0, hso0, Nat.le_refl _, by rw [List.drop_zero]; exact h, hst, rfl⟩
    rintro m s' E' ⟨i, rest, acc, rs, o, hi', rfl, I₁, hD, hO, hql, hrest, hrs, hres⟩
    refine wp_toks_here ?_
    by_cases hlt : i < ps.length
    · refine K.item i s' _ _ hlt I₁.st fun v h₁ tk₁ hMd hk₁ ht₁ => ?_
      have ht₁ : s'.toks ≤ tk₁ := ht₁
      dsimp only
      refine K.go i v _ _ _ hMd fun h₂ hP hst₂ hk₂ => ?_
      have up₂ : ∀ b o, b ∉ wr → s'.heap.get? b = some o → h₂.get? b = some o := fun b o nb q => hk₂ b o nb (hk₁ b o nb q)
      have I₂ := LoopInv.step (St' := St) (j := i + 1) B I₁ hnb ht₁ up₂ hst₂ (al _ _ hst₂)
      have hdrop : ps.drop i = ps[i] :: ps.drop (i + 1) := List.drop_eq_getElem_cons hlt
      rw [hdrop] at hrest
      simp only [compE, compTest, Option.bind_eq_some_iff, Option.some.injEq] at hrest
      obtain ⟨ε₁, hbind, b, hb, hrest⟩ := hrest
      subst hb
      have item : ItemIs X N' h₂ tk₁ tgt ps[i] v := items i v h₂ tk₁ ps[i] N' hP (List.getElem?_eq_getElem hlt) (Nat.le_trans I₁.tk ht₁) (fun b q z => by
        subst hN'
        rcases z with (z | z | z) | z
        · exact .inl z
        · exact .inr z
        · rw [z, B.D0.2.2] at q; cases q
        · rw [(B.new b z).1] at q; cases q) fun b o z q => I₂.kept b o (inN b z).2.1 (inN b z).2.2.1 (inN b z).2.2.2 q
      have hD₂ : h₂.get? D = some o := up₂ D _ (fun z => (B.wrN D z).2.1 rfl) hD
      have e₂ := I₂.env
      rw [hN'] at e₂
      refine bindT_sound (s := { s' with heap := h₂, toks := tk₁ }) hh e₂ pl item hbind fun s₃ k₃ => ?_
      have hD₃ : s₃.heap.get? D = some o := by
        obtain ⟨h', tk', rfl, ht, hk, ha, e⟩ := k₃
        exact hk D _ B.D0.2.1 hD₂
      have I₃ := LoopInv.stored (J := I) (fp := fp) (P := P) (Md := Md) (tgt := tgt) B K I₂ (by rw [hN']; exact k₃)
      obtain ⟨o1, o2⟩ := bindT_others hbind
      have weak : ∀ {h : Heap} {tk : Nat}, EnvAt X N' (NewAt H₃ H) h tk (cEnv sc env C) ε₁ → EnvAt X N' (NewAt H₃ H) h tk (cEnv sc env C) (compEnv sc ε) := fun e => e.weaken (fun x p q => by
        rw [o1 x fun z => ?_]
        · exact q
        · have : (compEnv sc ε).vars.lookup x = if (sc.names.lookup x == some .free) = true then ε.vars.lookup x else none := lookup_filter (fun y => sc.names.lookup y == some .free) x ε.vars
          rw [this] at q
          rcases c.tgt x z with y | y <;> (rw [y] at q; simp at q)) rfl
      have e₃ := I₃.env
      rw [hN'] at e₃
      rw [if_pos rfl] at hrest
      simp only [Option.bind_eq_some_iff, Option.map_eq_some_iff] at hrest
      obtain ⟨q, hq, rest', hrest', rfl⟩ := hrest
      refine wpAny_mono (S.E A E' s₃ N' (NewAt H₃ H) _ ε₁ elt q hR (g.ks XO I₃.ks) e₃ hq) (fun x s₅ h₅ => ?_) fun _ _ q => q
      obtain ⟨k₅, r₅⟩ := h₅
      have I₅ := LoopInv.made (fp := fp) K I₃ k₅
      have hD₅ : s₅.heap.get? D = some o := k₅.sub D _ hD₃
      unfold asStrs at hrs
      split at hrs
      · rename_i z; cases z
      · rename_i y gy r' z
        cases z
        rw [Option.map_eq_some_iff] at hrs
        obtain ⟨rs', hrs', rfl⟩ := hrs
        cases r₅ with | str _ _ t hl hg =>
        refine call_set_add (knd := strKind prog w) (k := y) (S := fun x => acc.any (· == x)) (n := acc.length) (strKind_is _ _ _ _) rfl (hO.1.setOf hD₅ (by unfold scanBound; omega)) (by unfold scanBound; omega) fun h₆ hs₆ hS₆ => ?_
        have up₆ : ∀ b o, b ≠ D → s₅.heap.get? b = some o → h₆.get? b = some o := fun b o nb q => hs₆.extBut b o nb q
        obtain ⟨o₆, ho₆, hO₆⟩ := hS₆.objOf
        have I₆ := LoopInv.grown (h := h₆) (tk := s₅.toks + 1) B K I₅ (Nat.le_succ _) up₆ (by rw [ho₆]; rfl)
        have env₆ : EnvAt X (fun b => (N b ∨ b ∈ wr ∨ b = D) ∨ NewAt H₃ H b) (NewAt H₃ H) h₆ (s₅.toks + 1) (cEnv sc env C) (compEnv sc ε) := by
          have := I₆.env
          rw [hN'] at this ⊢
          exact weak this
        by_cases hin : acc.any (· == y) = true
        · refine ⟨ps.length + 1 - (i + 1), by omega, i + 1, rest', acc, rs', o₆, hlt, rfl, ⟨I₆.ks, I₆.tk, I₆.kept, I₆.st, env₆⟩, ho₆, ⟨?_, hO.2⟩, by omega, hrest', hrs', ?_⟩
          · rw [if_pos hin, any_in hin] at hO₆
            exact hO₆
          · rw [hres]
            show (if acc.any (· == y) then dedup acc rs' else dedup (acc ++ [y]) rs') = _
            rw [if_pos hin]
        · refine ⟨ps.length + 1 - (i + 1), by omega, i + 1, rest', acc ++ [y], rs', o₆, hlt, rfl, ⟨I₆.ks, I₆.tk, I₆.kept, I₆.st, env₆⟩, ho₆, ⟨?_, by rw [List.length_append, List.length_singleton]; omega⟩, by rw [List.length_append, List.length_singleton]; omega, hrest', hrs', ?_⟩
          · rw [if_neg hin, any_or] at hO₆
            rw [List.length_append, List.length_singleton]
            exact hO₆
          · rw [hres]
            show (if acc.any (· == y) then dedup acc rs' else dedup (acc ++ [y]) rs') = _
            rw [if_neg hin]
      · cases hrs
    · have hin : i = ps.length := by omega
      subst hin
      rw [List.drop_length] at hrest
      cases hrest
      cases hrs
      refine K.done s' _ _ I₁.st fun h₁ tk₁ hk₁ ht₁ => ?_
      have ht₁ : s'.toks ≤ tk₁ := ht₁
      dsimp only
      obtain ⟨m, hns⟩ := I₁.env.ns
      have hCwr : C ∉ wr := fun z => (B.wrN C z).1 newC
      have hDwr : D ∉ wr := fun z => (B.wrN D z).2.1 rfl
      obtain ⟨h', tk', es, hs, ht'⟩ := I₁.ks
      have ksf : KS s { s' with heap := h₁, toks := tk₁ } := by
        subst es
        exact ⟨h₁, tk₁, rfl, fun b o q => hk₁ b o (fun z => by rw [hwr b z] at q; cases q) (hs b o q), Nat.le_trans ht' ht₁⟩
      refine hfin D C m _ ksf (B.new C newC).2 (hns.at' fun o q => hk₁ C o hCwr q) ?_
      rw [hres]
      refine .sset _ D o ?_ (hk₁ D _ hDwr hD) (by rw [hss]; exact hO)
      rintro (z | z)
      · have := hnb D z; rw [B.D0.1] at this; cases this
      · exact B.D0.2.1 (z ▸ newC)
  exact compStart_set loop (self A _ 0 _ _ hh I₀.st loop)

theorem set_some {sc s : Scope} {elt iter : Expr} {p : PV} (h : setCompV G ev sc ε elt tgt iter s = some p) : ∃ ps qs ss, compOk s sc tgt = true ∧ iterV G ev sc ε tgt iter = some ps ∧ ps.length ≤ 64 ∧ compE ev (relab s sc) (compEnv s ε) tgt [] elt ps = some qs ∧ asStrs qs = some ss ∧ p = .sset (dedup [] ss) := by
  obtain ⟨hc, h⟩ := if_some2 h
  rw [Bool.and_eq_true] at hc
  obtain ⟨ps, hi, h⟩ := Option.bind_eq_some_iff.mp h
  obtain ⟨hl, h⟩ := if_some2 h
  obtain ⟨qs, hq, h⟩ := Option.bind_eq_some_iff.mp h
  obtain ⟨ss, hs, rfl⟩ := Option.map_eq_some_iff.mp h
  exact ⟨ps, qs, ss, hc.2, hi, of_decide_eq_true hl, hq, hs, rfl⟩

theorem set_more (hss : X.sset = SetO prog w) (XO : XOk prog w X) (ev : Ev) (n : Nat) (S : Snd prog w X G mg mb ev n) (A : Around) (E : Value → Shared → Prop) (s : Shared) (N W : Addr → Prop) (env : Env) (ε : LEnv) (elt tgt iter : Expr) (sc : Scope) (pos : Pos) (p : PV) (hR : Room n A) (g : Gnd X G mg mb s.heap) (e : EnvAt X N W s.heap s.toks env ε)
    (h : setCompV G ev env.scope ε elt tgt iter sc = some p) (use : Option (Value → Sem Unit)) (cpos : Pos) (Q : Value → Shared → Prop)
    (hfin : ∀ D C m s', KS s s' → s.heap.get? C = none → s'.heap.Ns C m → RelV X (fun b => N b ∨ b = C) s'.heap s'.toks p D → compPost (model prog w) A E use Q D C (.ok .next) s') :
    wpAny (model prog w) A (comprehension (.SetComp elt [⟨tgt, iter, [], 0⟩] sc pos) sc env cpos (newSet (.type "set")) false (eval iter env) use) Q E s := by
  obtain ⟨ps, qs, ss, hc, hi, hl, hq, hs, rfl⟩ := set_some h
  exact setComp_it XO S hss hR g e hc (iter_notBad S hi) (fun Q hQ => iter_sound XO S hR g e hi hQ) hl hq hs fun D C m s' k hC hns hr => hfin (.ref D) C m s' k hC hns hr

theorem comp_set (hss : X.sset = SetO prog w) (hd : G.dicts = false) (XO : XOk prog w X) : CompMore prog w X G mg mb where
  set := set_more hss XO
  dict := fun _ _ _ _ _ _ _ _ _ _ _ _ _ _ _ _ _ _ _ _ h => no_some ((dict_none hd).symm.trans h)

theorem set_in {A : Around} {E : Value → Shared → Prop} {s : Shared} {x : Str} {t : Tok} {a : Addr} {o : Obj} {l : List Str} {Q : Value → Shared → Prop} (ho : s.heap.get? a = some o) (hs : SetO prog w o l) (hQ : ∀ tk, Q (.bool (l.any (· == x))) { s with toks := tk }) : wpAny (model prog w) A (compareOp .In (.str x t) (.ref a)) Q E s :=
  wpAny_inSet_of (knd := strKind prog w) (k := x) (strKind_is _ _ _ _) rfl (hs.1.setOf ho (by have := hs.2; unfold scanBound; omega)) (hQ _)
theorem set_len {A : Around} {E : Value → Shared → Prop} {s : Shared} {a : Addr} {o : Obj} {l : List Str} {Q : Value → Shared → Prop} (ho : s.heap.get? a = some o) (hs : SetO prog w o l) (hQ : ∀ t' tk, Q (.int l.length t') { s with toks := tk }) : wpAny (model prog w) A (call (.builtin "len") [.ref a]) Q E s := by
  obtain ⟨⟨hex, es, ep, t, hd, hel, hmem, hn, hf⟩, hl⟩ := hs
  refine call_len_set ho hex hd hf (by omega) ?_
  rw [hn]
  exact hQ _ _
theorem sets_only (prog : Program) (w : World) : SetsOk prog w (fun _ _ => False) (SetO prog w) where
  inS := fun A E s x t a o l Q ho hs hQ => set_in ho hs hQ
  getD := fun A E s x y t a o l value slice Q ho hd hl hQ => hd.elim
  lenS := fun A E s a o l Q ho hs hQ => set_len ho hs hQ
end
end Mine
end

section
set_option maxHeartbeats 1000000
open PySem PySem.Calls PyProof.Rows PySem.Spec PySem.Builtin PySem.Builtin.Str PySem.W
namespace Mine
namespace Y

section
variable {G : GCtx} {n : Nat} {sc : Scope} {ε ε₁ ε₂ ε' : LEnv} {pos px : Pos} {p q r : PV} {ps qs : List PV} {b : Bool} {fl : Fl}

noncomputable def ownNm (ε : LEnv) (e : Expr) : Bool := match ε.own with
  | some yl => isNm yl.1 e
  | none => false
noncomputable def isSlice : Expr → Bool
  | .Slice .. => true
  | _ => false

-- expressions
theorem const {c : Const} {k : Nat} (h : constV c = some p) : (evN G (n + 1)).E sc ε (.Constant c k pos) = some p := h
theorem name {x : Str} (hx : (x == ("__debug__" : Str)) = false) (h : ε.vars.lookup x = some p) : (evN G (n + 1)).E sc ε (.Name x px) = some p := by
  show nameV G sc ε x = some p
  unfold nameV
  rw [hx, h]; rfl
theorem glo {x : Str} (hx : (x == ("__debug__" : Str)) = false) (h : ε.vars.lookup x = none) (hg : glob sc x = true) (hc : G.consts.lookup x = some p) : (evN G (n + 1)).E sc ε (.Name x px) = some p := by
  show nameV G sc ε x = some p
  unfold nameV
  rw [hx, h, hg]; exact hc
theorem bin {a c : Expr} {op : Operator} (ha : (evN G n).E sc ε a = some p) (hb : (evN G n).E sc ε c = some q) (h : binV op p q = some r) : (evN G (n + 1)).E sc ε (.BinOp a op c pos) = some r := by
  show ((evN G n).E sc ε a).bind (fun p => ((evN G n).E sc ε c).bind fun q => binV op p q) = _
  rw [ha, Option.bind_some, hb, Option.bind_some, h]
theorem neg {a : Expr} {i : Int} (ha : (evN G n).E sc ε a = some (.int i)) : (evN G (n + 1)).E sc ε (.UnaryOp .USub a pos) = some (.int (-i)) := by
  show ((evN G n).E sc ε a).bind _ = _
  rw [ha]; rfl
theorem ifT {t a c : Expr} (ht : (evN G n).T sc ε t = some b) (hb : b = true) (ha : (evN G n).E sc ε a = some p) : (evN G (n + 1)).E sc ε (.IfExp t a c pos) = some p := by
  show ((evN G n).T sc ε t).bind (fun d => if d then (evN G n).E sc ε a else (evN G n).E sc ε c) = _
  rw [ht, Option.bind_some, hb, if_pos rfl, ha]
theorem ifF {t a c : Expr} (ht : (evN G n).T sc ε t = some b) (hb : b = false) (ha : (evN G n).E sc ε c = some p) : (evN G (n + 1)).E sc ε (.IfExp t a c pos) = some p := by
  show ((evN G n).T sc ε t).bind (fun d => if d then (evN G n).E sc ε a else (evN G n).E sc ε c) = _
  rw [ht, Option.bind_some, hb, if_neg Bool.false_ne_true, ha]
theorem ifI {t a c : Expr} {i j : Int} (ht : (evN G n).T sc ε t = some b) (ha : (evN G n).E sc ε a = some (.int i)) (hc : (evN G n).E sc ε c = some (.int j)) : (evN G (n + 1)).E sc ε (.IfExp t a c pos) = some (.int (if b then i else j)) := by
  cases b with
  | true => exact ifT ht rfl ha
  | false => exact ifF ht rfl hc
theorem cmpE_of {ev : Ev} {l c : Expr} {op : CmpOp} (hl : ev.E sc ε l = some p) (hr : brw ev sc ε c = some q) (h : cmpV op p q = some b) : cmpE ev sc ε l [op] [c] = some b := by
  show (ev.E sc ε l).bind (fun p => (brw ev sc ε c).bind fun q => cmpV op p q) = _
  rw [hl, Option.bind_some, hr, Option.bind_some, h]
theorem cmp {l c : Expr} {op : CmpOp} (hl : (evN G n).E sc ε l = some p) (hr : brw (evN G n) sc ε c = some q) (h : cmpV op p q = some b) : (evN G (n + 1)).E sc ε (.Compare l [op] [c] pos) = some (.bool b) := by
  show (cmpE (evN G n) sc ε l [op] [c]).map PV.bool = _
  rw [cmpE_of hl hr h]; rfl
theorem brwP {e : Expr} (ho : ε.own = none) (h : (evN G n).E sc ε e = some p) : brw (evN G n) sc ε e = some p := by
  unfold brw
  rw [ho]; exact h
theorem brwO {x : Str} {l : List PV} (ho : ε.own = some (x, l)) : brw (evN G n) sc ε (.Name x px) = some (.lst l) := by
  unfold brw
  rw [ho]
  exact if_pos (beq_self_eq_true x)
theorem brwN {e : Expr} (he : ownNm ε e = false) (h : (evN G n).E sc ε e = some p) : brw (evN G n) sc ε e = some p := by
  unfold brw
  unfold ownNm at he
  cases ho : ε.own with
  | none => exact h
  | some yl =>
    rw [ho] at he
    exact (if_neg (ne_true_of_eq_false he)).trans h
theorem slice {v : Expr} {lo hi st : Option Expr} {i j k : Option Int} {sp : Pos} (hv : (evN G n).E sc ε v = some p) (h1 : part (evN G n) sc ε lo = some i) (h2 : part (evN G n) sc ε hi = some j) (h3 : part (evN G n) sc ε st = some k) (h : sliceV p i j k = some r) :
    (evN G (n + 1)).E sc ε (.Subscript v (.Slice lo hi st sp) pos) = some r := by
  show ((evN G n).E sc ε v).bind (fun p => (part (evN G n) sc ε lo).bind fun l => (part (evN G n) sc ε hi).bind fun h => (part (evN G n) sc ε st).bind fun s => sliceV p l h s) = _
  rw [hv, Option.bind_some, h1, Option.bind_some, h2, Option.bind_some, h3, Option.bind_some, h]
theorem part0 : part (evN G n) sc ε none = some none := rfl
theorem part1 {e : Expr} {i : Int} (h : (evN G n).E sc ε e = some (.int i)) (hs : smallI i = true) : part (evN G n) sc ε (some e) = some (some i) := by
  show ((evN G n).E sc ε e).bind smallP = _
  rw [h]
  exact if_pos hs
theorem idx {v i : Expr} (hn : isSlice i = false) (hv : brw (evN G n) sc ε v = some p) (hi : (evN G n).E sc ε i = some q) (h : idxV p q = some r) : (evN G (n + 1)).E sc ε (.Subscript v i pos) = some r := by
  have e : (evN G (n + 1)).E sc ε (.Subscript v i pos) = (brw (evN G n) sc ε v).bind fun p => ((evN G n).E sc ε i).bind fun q => idxV p q := by
    cases i with
    | Slice => exact no_tf hn
    | _ => rfl
  rw [e, hv, Option.bind_some, hi, Option.bind_some, h]
theorem evs0 : evs (evN G n) sc ε [] = some [] := rfl
theorem evs1 {e : Expr} {es : List Expr} (h : (evN G n).E sc ε e = some p) (ht : evs (evN G n) sc ε es = some ps) : evs (evN G n) sc ε (e :: es) = some (p :: ps) := by
  unfold evs
  rw [h, Option.bind_some, ht]; rfl
theorem list {es : List Expr} (h : evs (evN G n) sc ε es = some ps) (hl : ps.length ≤ lim) : (evN G (n + 1)).E sc ε (.List es pos) = some (.lst ps) := by
  show (evs (evN G n) sc ε es).bind mkL = _
  rw [h, Option.bind_some]
  exact if_pos hl
theorem tuple {es : List Expr} {k : Nat} (h : evs (evN G n) sc ε es = some ps) (hl : ps.length ≤ lim) : (evN G (n + 1)).E sc ε (.Tuple es k pos) = some (.tup ps) := by
  show (evs (evN G n) sc ε es).bind mkT = _
  rw [h, Option.bind_some]
  exact if_pos hl
theorem lcomp {elt tgt iter : Expr} {ifs : List Expr} {s : Scope} (hc : compOk s sc tgt = true) (hi : iterV G (evN G n) sc ε tgt iter = some ps) (hl : ps.length ≤ lim) (h : compE (evN G n) (relab s sc) (compEnv s ε) tgt ifs elt ps = some qs) :
    (evN G (n + 1)).E sc ε (.ListComp elt [⟨tgt, iter, ifs, 0⟩] s pos) = some (.lst qs) := by
  show listCompV G (evN G n) sc ε elt tgt iter ifs s = _
  unfold listCompV
  rw [if_pos hc, hi, Option.bind_some, if_pos (decide_eq_true hl), h]; rfl
theorem iterP {tgt e : Expr} (hn : iterName G sc e = none) (h : (evN G n).E sc ε e = some p) (hi : itemsV p = some ps) : iterV G (evN G n) sc ε tgt e = some ps := by
  unfold iterV
  rw [hn]
  show ((evN G n).E sc ε e).bind itemsV = _
  rw [h, Option.bind_some, hi]
theorem iterN {tgt e : Expr} {k : BK} {args : List Expr} (hn : iterName G sc e = some (k, args)) (hp : ((k == .range || isPair tgt) && decide (args.length < 30)) = true) (h : evs (evN G n) sc ε args = some qs) (hi : iterB k qs = some ps) : iterV G (evN G n) sc ε tgt e = some ps := by
  unfold iterV
  rw [hn]
  refine (if_pos hp).trans ?_
  rw [h, Option.bind_some, hi]
theorem compN {ev : Ev} {tgt elt : Expr} {ifs : List Expr} : compE ev sc ε tgt ifs elt [] = some [] := rfl
theorem compT {ev : Ev} {tgt elt : Expr} {ifs : List Expr} (hb : bindT sc ε tgt p = some ε₁) (ht : compTest ev sc ε₁ ifs = some b) (hb' : b = true) (he : ev.E sc ε₁ elt = some q) (hr : compE ev sc ε tgt ifs elt ps = some qs) : compE ev sc ε tgt ifs elt (p :: ps) = some (q :: qs) := by
  unfold compE
  rw [hb, Option.bind_some, ht, Option.bind_some, hb', if_pos rfl, he, Option.bind_some, hr]; rfl
theorem compF {ev : Ev} {tgt elt : Expr} {ifs : List Expr} (hb : bindT sc ε tgt p = some ε₁) (ht : compTest ev sc ε₁ ifs = some b) (hb' : b = false) (hr : compE ev sc ε tgt ifs elt ps = some qs) : compE ev sc ε tgt ifs elt (p :: ps) = some qs := by
  unfold compE
  rw [hb, Option.bind_some, ht, Option.bind_some, hb', if_neg Bool.false_ne_true, hr]
theorem test0 {ev : Ev} : compTest ev sc ε [] = some true := rfl
theorem test1 {ev : Ev} {c : Expr} (h : ev.T sc ε c = some b) : compTest ev sc ε [c] = some b := h
/-- every item of a list gives its own -/
theorem compMap {ev : Ev} {tgt elt : Expr} {α : Type} (f g : α → PV) : ∀ (l : List α), (∀ a ∈ l, ∃ ε₁, bindT sc ε tgt (f a) = some ε₁ ∧ ev.E sc ε₁ elt = some (g a)) → compE ev sc ε tgt [] elt (l.map f) = some (l.map g)
  | [], _ => rfl
  | a :: l, h => by
    obtain ⟨ε₁, h1, h2⟩ := h a (List.mem_cons_self ..)
    exact compT h1 rfl rfl h2 (compMap f g l fun x hx => h x (List.mem_cons_of_mem _ hx))

-- calls
theorem callF {g : Str} {gp : Pos} {args : List Expr} {fi : FnI} (hl : ¬ 30 ≤ args.length) (hg : glob sc g = true) (hf : G.fns.lookup g = some fi) (ha : evs (evN G n) sc ε args = some ps) (h : (evN G n).F g ps = some p) : (evN G (n + 1)).E sc ε (.Call (.Name g gp) args [] pos) = some p := by
  refine (if_neg hl).trans ((if_pos hg).trans ?_)
  unfold callG
  rw [hf]
  show (evs (evN G n) sc ε args).bind (fun ps => (evN G n).F g ps) = _
  rw [ha, Option.bind_some, h]
theorem callH {g : Str} {gp : Pos} {a : Expr} {l : List PV} {kvs : List (Str × Str)} (hg : glob sc g = true) (hf : G.fns.lookup g = none) (hh : (G.hdr == some g) = true) (ha : (evN G n).E sc ε a = some (.lst l)) (hk : asPairs l = some kvs) (hc : kvs.all (fun kv => cleanS kv.1 && cleanS kv.2) = true) :
    (evN G (n + 1)).E sc ε (.Call (.Name g gp) [a] [] pos) = some (.hdr kvs) := by
  refine (if_pos hg).trans ?_
  unfold callG
  rw [hf]
  refine (if_pos hh).trans ?_
  show ((evN G n).E sc ε a).bind newH = _
  rw [ha]
  show (asPairs l).bind _ = _
  rw [hk]
  exact if_pos hc
theorem callK {g : Str} {gp : Pos} {args : List Expr} {k : BK} (hl : ¬ 30 ≤ args.length) (hg : glob sc g = true) (hf : G.fns.lookup g = none) (hh : (G.hdr == some g) = false) (hk : bkOf g = some k) (h : callB (evN G n) k sc ε args = some q) :
    (evN G (n + 1)).E sc ε (.Call (.Name g gp) args [] pos) = some q := by
  refine (if_neg hl).trans ((if_pos hg).trans ?_)
  unfold callG
  rw [hf]
  refine (if_neg (ne_true_of_eq_false hh)).trans ?_
  rw [hk]; exact h
theorem callB1 {g : Str} {gp : Pos} {a : Expr} {k : BK} (hg : glob sc g = true) (hf : G.fns.lookup g = none) (hh : (G.hdr == some g) = false) (hk : bkOf g = some k) (ha : brw (evN G n) sc ε a = some p) (h : builtinV k [p] = some q) :
    (evN G (n + 1)).E sc ε (.Call (.Name g gp) [a] [] pos) = some q := by
  refine callK (by show ¬ 30 ≤ 1; decide) hg hf hh hk ?_
  show (brw (evN G n) sc ε a).bind (fun p => builtinV k [p]) = _
  rw [ha, Option.bind_some, h]
theorem callB2 {g : Str} {gp : Pos} {a c : Expr} {k : BK} (hg : glob sc g = true) (hf : G.fns.lookup g = none) (hh : (G.hdr == some g) = false) (hk : bkOf g = some k) (ha : evs (evN G n) sc ε [a, c] = some ps) (h : builtinV k ps = some q) :
    (evN G (n + 1)).E sc ε (.Call (.Name g gp) [a, c] [] pos) = some q := by
  refine callK (by show ¬ 30 ≤ 2; decide) hg hf hh hk ?_
  show (evs (evN G n) sc ε [a, c]).bind (fun ps => builtinV k ps) = _
  rw [ha, Option.bind_some, h]
/-- not the method replace -/
theorem callM {o : Expr} {m : Str} {ap : Pos} {args : List Expr} {k : MK} (hl : ¬ 30 ≤ args.length) (hc : (ap.endLine == pos.line && notSuper o) = true) (ho : (evN G n).E sc ε o = some p) (hm : mkOf m = some k) (hk : (k == .replace) = false) (ha : evs (evN G n) sc ε args = some ps) (h : methV p k ps = some q) :
    (evN G (n + 1)).E sc ε (.Call (.Attribute o m ap) args [] pos) = some q := by
  refine (if_neg hl).trans ((if_neg (by rw [hc]; decide)).trans ?_)
  unfold Mine.callM
  rw [ho, Option.bind_some, hm, Option.bind_some, if_neg (ne_true_of_eq_false hk), ha, Option.bind_some, h]
-- tests
theorem tcmp {l c : Expr} {op : CmpOp} (hl : (evN G n).E sc ε l = some p) (hr : brw (evN G n) sc ε c = some q) (h : cmpV op p q = some b) : (evN G (n + 1)).T sc ε (.Compare l [op] [c] pos) = some b := cmpE_of hl hr h
theorem tnot {e : Expr} (h : (evN G n).T sc ε e = some b) : (evN G (n + 1)).T sc ε (.UnaryOp .Not e pos) = some (!b) := by
  show ((evN G n).T sc ε e).map (!·) = _
  rw [h]; rfl
theorem tname {x : Str} (h : (evN G n).E sc ε (.Name x px) = some p) (ht : truthV p = some b) : (evN G (n + 1)).T sc ε (.Name x px) = some b := by
  show ((evN G n).E sc ε (.Name x px)).bind truthV = _
  rw [h, Option.bind_some, ht]
theorem tcall {f : Expr} {args : List Expr} {kws : List Keyword} (h : (evN G n).E sc ε (.Call f args kws pos) = some p) (ht : truthV p = some b) : (evN G (n + 1)).T sc ε (.Call f args kws pos) = some b := by
  show ((evN G n).E sc ε (.Call f args kws pos)).bind truthV = _
  rw [h, Option.bind_some, ht]

-- statements
theorem nil : (evN G (n + 1)).S sc ε [] = some (ε, .next) := rfl
theorem next {s : Stmt} {rest : List Stmt} (h : stmtV G (evN G n) sc ε s = some (ε₁, .next)) (hr : (evN G n).S sc ε₁ rest = some (ε', fl)) : (evN G (n + 1)).S sc ε (s :: rest) = some (ε', fl) := by
  show (stmtV G (evN G n) sc ε s).bind _ = _
  rw [h, Option.bind_some]; exact hr
theorem stop {s : Stmt} {rest : List Stmt} (h : stmtV G (evN G n) sc ε s = some (ε', .ret p)) : (evN G (n + 1)).S sc ε (s :: rest) = some (ε', .ret p) := by
  show (stmtV G (evN G n) sc ε s).bind _ = _
  rw [h]; rfl
theorem ret {e : Expr} (hn : ownNm ε e = false) (h : (evN G n).E sc ε e = some p) : stmtV G (evN G n) sc ε (.Return (some e) pos) = some (ε, .ret p) := by
  show retS (evN G n) sc ε e = _
  unfold retS
  unfold ownNm at hn
  cases ho : ε.own with
  | none => show ((evN G n).E sc ε e).map _ = _; rw [h]; rfl
  | some yl =>
    rw [ho] at hn
    refine (if_neg (ne_true_of_eq_false hn)).trans ?_
    rw [h]; rfl
theorem asg {x : Str} {e : Expr} (ho : (G.owns.contains x && ownForm e) = false) (h : (evN G n).E sc ε e = some p) (hs : setV sc ε x p = some ε₁) : stmtV G (evN G n) sc ε (.Assign [.Name x px] e pos) = some (ε₁, .next) := by
  show (if G.owns.contains x && ownForm e then _ else ((evN G n).E sc ε e).bind fun p => setV sc ε x p).map _ = _
  rw [ho, if_neg Bool.false_ne_true, h, Option.bind_some, hs]; rfl
theorem asgO {x : Str} {e : Expr} {l : List PV} (ho : (G.owns.contains x && ownForm e) = true) (h : ownE (evN G n) sc ε e = some l) (hs : putOwn sc ε x l = some ε₁) : stmtV G (evN G n) sc ε (.Assign [.Name x px] e pos) = some (ε₁, .next) := by
  show (if G.owns.contains x && ownForm e then (ownE (evN G n) sc ε e).bind fun l => putOwn sc ε x l else _).map _ = _
  rw [ho, if_pos rfl, h, Option.bind_some, hs]; rfl
theorem split {o a : Expr} {m : Str} {ap : Pos} {x y : Str} {g1 g2 : Bool} (hc : (ap.endLine == pos.line && notSuper o) = true) (ho : (evN G n).E sc ε o = some (.str x g1)) (ha : (evN G n).E sc ε a = some (.str y g2)) (hm : mkOf m = some .split)
    (h : (y.length == 0 || decide ((Txt.split x y).length > lim) || decide (x.length > lim)) = false) : ownE (evN G n) sc ε (.Call (.Attribute o m ap) [a] [] pos) = some (strsV (Txt.split x y)) := by
  refine (if_pos (by rw [hc, hm]; rfl)).trans ?_
  show ((evN G n).E sc ε o).bind (fun p => ((evN G n).E sc ε a).bind fun q => splitV p q) = _
  rw [ho, Option.bind_some, ha]
  exact if_neg (ne_true_of_eq_false h)
/-- x, y = e₁, e₂ -/
theorem asg2 {x y : Str} {py tp vp : Pos} {k kk : Nat} {e₁ e₂ : Expr} (hxy : (x == y) = false) (hok : swapOk e₁ e₂ = true) (ho1 : (G.owns.contains x && ownForm e₁) = false) (ho2 : (G.owns.contains y && ownForm e₂) = false) (h1 : (evN G n).E sc ε e₁ = some p) (h2 : (evN G n).E sc ε e₂ = some q) (hs1 : setV sc ε x p = some ε₁) (hs2 : setV sc ε₁ y q = some ε₂) :
    stmtV G (evN G n) sc ε (.Assign [.Tuple [.Name x px, .Name y py] k tp] (.Tuple [e₁, e₂] kk vp) pos) = some (ε₂, .next) := by
  show (if x == y then none else assignP G (evN G n) sc ε x y e₁ e₂).map _ = _
  unfold assignP
  rw [hxy, if_neg Bool.false_ne_true, hok, ho1, ho2]
  show (((evN G n).E sc ε e₁).bind fun p => ((evN G n).E sc ε e₂).bind fun q => (setV sc ε x p).bind fun ε' => setV sc ε' y q).map _ = _
  rw [h1, Option.bind_some, h2, Option.bind_some, hs1, Option.bind_some, hs2]; rfl
noncomputable def isTup2 (e : Expr) : Bool := (asPair e).isSome
/-- x, y = e -/
theorem asgU {x y : Str} {py tp : Pos} {k : Nat} {e : Expr} (hxy : (x == y) = false) (he : isTup2 e = false) (h : (evN G n).E sc ε e = some p) (hs : bindT sc ε (.Tuple [.Name x px, .Name y py] k tp) p = some ε₁) :
    stmtV G (evN G n) sc ε (.Assign [.Tuple [.Name x px, .Name y py] k tp] e pos) = some (ε₁, .next) := by
  show (assign2 G (evN G n) sc ε x y e).map _ = _
  unfold assign2
  rw [hxy, if_neg Bool.false_ne_true]
  unfold isTup2 at he
  cases q : asPair e with
  | some ab => rw [q] at he; exact no_tf he
  | none =>
    show (((evN G n).E sc ε e).bind fun p => set2 sc ε x y p).map _ = _
    rw [h, Option.bind_some, show set2 sc ε x y p = some ε₁ from hs]; rfl
theorem aug {x : Str} {op : Operator} {e : Expr} (hx : ε.vars.lookup x = some p) (he : (evN G n).E sc ε e = some q) (h : augV op p q = some r) (hs : setV sc ε x r = some ε₁) : stmtV G (evN G n) sc ε (.AugAssign (.Name x px) op e pos) = some (ε₁, .next) := by
  show ((ε.vars.lookup x).bind (fun p => ((evN G n).E sc ε e).bind fun q => (augV op p q).bind fun r => setV sc ε x r)).map _ = _
  rw [hx, Option.bind_some, he, Option.bind_some, h, Option.bind_some, hs]; rfl
theorem sifT {t : Expr} {a c : List Stmt} (ht : (evN G n).T sc ε t = some b) (hb : b = true) (ha : (evN G n).S sc ε a = some (ε', fl)) : stmtV G (evN G n) sc ε (.If t a c pos) = some (ε', fl) := by
  show ((evN G n).T sc ε t).bind (fun d => (evN G n).S sc ε (if d then a else c)) = _
  rw [ht, Option.bind_some, hb, if_pos rfl, ha]
theorem sifF {t : Expr} {a c : List Stmt} (ht : (evN G n).T sc ε t = some b) (hb : b = false) (ha : (evN G n).S sc ε c = some (ε', fl)) : stmtV G (evN G n) sc ε (.If t a c pos) = some (ε', fl) := by
  show ((evN G n).T sc ε t).bind (fun d => (evN G n).S sc ε (if d then a else c)) = _
  rw [ht, Option.bind_some, hb, if_neg Bool.false_ne_true, ha]
theorem assert {t : Expr} {m : Option Expr} (ht : (evN G n).T sc ε t = some b) (hb : b = true) : stmtV G (evN G n) sc ε (.Assert t m pos) = some (ε, .next) := by
  show ((evN G n).T sc ε t).bind (fun d => if d then some (ε, Fl.next) else none) = _
  rw [ht, Option.bind_some, hb, if_pos rfl]
theorem del {x : Str} {i : Expr} {sp : Pos} {l l' : List PV} {k : Int} (ho : ε.own = some (x, l)) (hi : (evN G n).E sc ε i = some (.int k)) (h : delAt l k = some l') : stmtV G (evN G n) sc ε (.Delete [.Subscript (.Name x px) i sp] pos) = some ({ ε with own := some (x, l') }, .next) := by
  show ((ε.own).bind (fun yl => if isNm yl.1 (.Name x px) then ((evN G n).E sc ε i).bind fun q => delV ε yl.1 yl.2 q else none)).map _ = _
  rw [ho, Option.bind_some, if_pos (show isNm x (.Name x px) = true from beq_self_eq_true x), hi]
  show ((delAt l k).map _).map _ = _
  rw [h]; rfl
theorem forS_P {tgt iter : Expr} {body : List Stmt} (hn : ownNm ε iter = false) (hi : iterV G (evN G n) sc ε tgt iter = some ps) : forS G (evN G n) sc ε tgt iter body = forL (evN G n) sc tgt body ps ε := by
  unfold forS
  unfold ownNm at hn
  cases ho : ε.own with
  | none => show (iterV G (evN G n) sc ε tgt iter).bind _ = _; rw [hi]; rfl
  | some yl =>
    rw [ho] at hn
    refine (if_neg (ne_true_of_eq_false hn)).trans ?_
    rw [hi]; rfl
theorem forP {tgt iter : Expr} {body : List Stmt} (hn : ownNm ε iter = false) (hi : iterV G (evN G n) sc ε tgt iter = some ps) (h : forL (evN G n) sc tgt body ps ε = some (ε', fl)) : stmtV G (evN G n) sc ε (.For tgt iter body [] pos) = some (ε', fl) :=
  (forS_P hn hi).trans h
theorem forS_O {tgt : Expr} {x : Str} {body : List Stmt} {l : List PV} (ho : ε.own = some (x, l)) : forS G (evN G n) sc ε tgt (.Name x px) body = forL (evN G n) sc tgt body l (thaw ε) := by
  unfold forS
  rw [ho]
  exact if_pos (beq_self_eq_true x)
theorem forO {tgt : Expr} {x : Str} {body : List Stmt} {l : List PV} (ho : ε.own = some (x, l)) (h : forL (evN G n) sc tgt body l (thaw ε) = some (ε', fl)) : stmtV G (evN G n) sc ε (.For tgt (.Name x px) body [] pos) = some (ε', fl) :=
  (forS_O ho).trans h
theorem forN {ev : Ev} {tgt : Expr} {body : List Stmt} : forL ev sc tgt body [] ε = some (ε, .next) := rfl
theorem forC {ev : Ev} {tgt : Expr} {body : List Stmt} (hb : bindT sc ε tgt p = some ε₁) (h : ev.S sc ε₁ body = some (ε₂, .next)) (hr : forL ev sc tgt body ps ε₂ = some (ε', fl)) : forL ev sc tgt body (p :: ps) ε = some (ε', fl) := by
  unfold forL
  rw [hb, Option.bind_some, h, Option.bind_some]; exact hr
theorem forR {ev : Ev} {tgt : Expr} {body : List Stmt} (hb : bindT sc ε tgt p = some ε₁) (h : ev.S sc ε₁ body = some (ε', .ret q)) : forL ev sc tgt body (p :: ps) ε = some (ε', .ret q) := by
  unfold forL
  rw [hb, Option.bind_some, h]; rfl
theorem wend {t : Expr} {body : List Stmt} (ht : (evN G n).T sc ε t = some b) (hb : b = false) {k : Nat} : whileL (evN G n) sc t body (k + 1) ε = some (ε, .next) := by
  unfold whileL
  rw [ht, Option.bind_some, hb, if_neg Bool.false_ne_true]
theorem wturn {t : Expr} {body : List Stmt} (ht : (evN G n).T sc ε t = some b) (hb : b = true) {k : Nat} (h : (evN G n).S sc ε body = some (ε₁, .next)) (hr : whileL (evN G n) sc t body k ε₁ = some (ε', fl)) : whileL (evN G n) sc t body (k + 1) ε = some (ε', fl) := by
  unfold whileL
  rw [ht, Option.bind_some, hb, if_pos rfl, h, Option.bind_some]; exact hr
theorem whl {t : Expr} {body : List Stmt} (h : whileL (evN G n) sc t body 100 ε = some (ε', fl)) : stmtV G (evN G n) sc ε (.While t body [] pos) = some (ε', fl) := h

-- branching told by a Bool
theorem ife {t a c : Expr} (ht : (evN G n).T sc ε t = some b) (h : (if b then (evN G n).E sc ε a else (evN G n).E sc ε c) = some p) : (evN G (n + 1)).E sc ε (.IfExp t a c pos) = some p := by
  show ((evN G n).T sc ε t).bind (fun d => if d then (evN G n).E sc ε a else (evN G n).E sc ε c) = _
  rw [ht, Option.bind_some, h]
variable {β : Type}
noncomputable def K {β : Type} (G : GCtx) (n : Nat) (sc : Scope) (ε : LEnv) (xs : List Stmt) (k : LEnv × Fl → Option β) : Option β := ((evN G n).S sc ε xs).bind k
theorem kNil {k : LEnv × Fl → Option β} {R : Option β} (h : k (ε, .next) = R) : K G (n + 1) sc ε [] k = R := h
theorem kRet {e : Expr} {rest : List Stmt} {k : LEnv × Fl → Option β} {R : Option β} (hn : ownNm ε e = false) (he : (evN G n).E sc ε e = some p) (h : k (ε, .ret p) = R) : K G (n + 1) sc ε (.Return (some e) pos :: rest) k = R := by
  unfold K
  rw [stop (ret hn he), Option.bind_some]; exact h
theorem kNext {s : Stmt} {rest : List Stmt} {k : LEnv × Fl → Option β} {R : Option β} (hs : stmtV G (evN G n) sc ε s = some (ε₁, .next)) (h : K G n sc ε₁ rest k = R) : K G (n + 1) sc ε (s :: rest) k = R := by
  unfold K at h ⊢
  have : (evN G (n + 1)).S sc ε (s :: rest) = (evN G n).S sc ε₁ rest := by
    show (stmtV G (evN G n) sc ε s).bind _ = _
    rw [hs]; rfl
  rw [this]; exact h
theorem kS {xs : List Stmt} {R : LEnv × Fl} (h : K G n sc ε xs some = some R) : (evN G n).S sc ε xs = some R := by
  unfold K at h
  cases q : (evN G n).S sc ε xs with
  | none => rw [q] at h; cases h
  | some r => rw [q] at h; exact h
theorem assoc {α β γ : Type} {o : Option α} {f : α → Option β} {g : β → Option γ} : (o.bind f).bind g = o.bind fun a => (f a).bind g := by cases o <;> rfl
noncomputable def aft {β : Type} (ev : Ev) (sc : Scope) (rest : List Stmt) (k : LEnv × Fl → Option β) : LEnv × Fl → Option β := fun r => match r.2 with
  | .next => (ev.S sc r.1 rest).bind k
  | .ret _ => k r
theorem seq_eq {s : Stmt} {rest : List Stmt} {k : LEnv × Fl → Option β} : K G (n + 1) sc ε (s :: rest) k = (stmtV G (evN G n) sc ε s).bind (aft (evN G n) sc rest k) := by
  show ((stmtV G (evN G n) sc ε s).bind _).bind k = _
  rw [assoc]
  congr 1
  funext r
  obtain ⟨ε', fl⟩ := r
  cases fl <;> rfl
theorem kIf {t : Expr} {a c rest : List Stmt} {k : LEnv × Fl → Option β} {R : Option β} (ht : (evN G n).T sc ε t = some b) (h : (if b then K G n sc ε a (aft (evN G n) sc rest k) else K G n sc ε c (aft (evN G n) sc rest k)) = R) : K G (n + 1) sc ε (.If t a c pos :: rest) k = R := by
  rw [seq_eq]
  show (((evN G n).T sc ε t).bind (fun d => (evN G n).S sc ε (if d then a else c))).bind _ = _
  rw [ht, Option.bind_some]
  rw [← h]
  cases b <;> rfl
noncomputable def aftL {β : Type} (f : LEnv → Option (LEnv × Fl)) (k : LEnv × Fl → Option β) : LEnv × Fl → Option β := fun r => match r.2 with
  | .next => (f r.1).bind k
  | .ret _ => k r
theorem kWhile {t : Expr} {body rest : List Stmt} {k : LEnv × Fl → Option β} {R : Option β} (h : (whileL (evN G n) sc t body 100 ε).bind (aft (evN G n) sc rest k) = R) : K G (n + 1) sc ε (.While t body [] pos :: rest) k = R := by
  rw [seq_eq]; exact h
theorem wStep {t : Expr} {body : List Stmt} {j : Nat} {k : LEnv × Fl → Option β} {R : Option β} (ht : (evN G n).T sc ε t = some b) (h : (if b then K G n sc ε body (aftL (fun ε' => whileL (evN G n) sc t body j ε') k) else k (ε, .next)) = R) : (whileL (evN G n) sc t body (j + 1) ε).bind k = R := by
  unfold whileL
  rw [ht, Option.bind_some, ← h]
  cases b with
  | false => rfl
  | true =>
    rw [if_pos rfl, if_pos rfl, assoc]
    show ((evN G n).S sc ε body).bind _ = ((evN G n).S sc ε body).bind _
    congr 1
    funext r
    obtain ⟨ε', fl⟩ := r
    cases fl <;> rfl
theorem kForP {tgt iter : Expr} {body rest : List Stmt} {k : LEnv × Fl → Option β} {R : Option β} (hn : ownNm ε iter = false) (hi : iterV G (evN G n) sc ε tgt iter = some ps) (h : (forL (evN G n) sc tgt body ps ε).bind (aft (evN G n) sc rest k) = R) : K G (n + 1) sc ε (.For tgt iter body [] pos :: rest) k = R := by
  rw [seq_eq, ← h, show stmtV G (evN G n) sc ε (.For tgt iter body [] pos) = _ from forS_P hn hi]
theorem kForO {tgt : Expr} {x : Str} {body rest : List Stmt} {l : List PV} {k : LEnv × Fl → Option β} {R : Option β} (ho : ε.own = some (x, l)) (h : (forL (evN G n) sc tgt body l (thaw ε)).bind (aft (evN G n) sc rest k) = R) : K G (n + 1) sc ε (.For tgt (.Name x px) body [] pos :: rest) k = R := by
  rw [seq_eq, ← h, show stmtV G (evN G n) sc ε (.For tgt (.Name x px) body [] pos) = _ from forS_O ho]
theorem fNil {ev : Ev} {tgt : Expr} {body : List Stmt} {k : LEnv × Fl → Option β} {R : Option β} (h : k (ε, .next) = R) : (forL ev sc tgt body [] ε).bind k = R := h
theorem fStep {tgt : Expr} {body : List Stmt} {k : LEnv × Fl → Option β} {R : Option β} (hb : bindT sc ε tgt p = some ε₁) (h : K G n sc ε₁ body (aftL (fun ε' => forL (evN G n) sc tgt body ps ε') k) = R) : (forL (evN G n) sc tgt body (p :: ps) ε).bind k = R := by
  unfold forL
  rw [hb, Option.bind_some, assoc, ← h]
  show ((evN G n).S sc ε₁ body).bind _ = ((evN G n).S sc ε₁ body).bind _
  congr 1
  funext r
  obtain ⟨ε', fl⟩ := r
  cases fl <;> rfl
theorem cStep {tgt elt : Expr} {ifs : List Expr} {R : Option (List PV)} (hb : bindT sc ε tgt p = some ε₁) (ht : compTest (evN G n) sc ε₁ ifs = some b) (h : (if b then ((evN G n).E sc ε₁ elt).bind (fun q => (compE (evN G n) sc ε tgt ifs elt ps).map (q :: ·)) else compE (evN G n) sc ε tgt ifs elt ps) = R) : compE (evN G n) sc ε tgt ifs elt (p :: ps) = R := by
  unfold compE
  rw [hb, Option.bind_some, ht, Option.bind_some, h]
theorem cElt {e : Expr} {f : Option (List PV)} (he : (evN G n).E sc ε e = some q) (h : f = some qs) : ((evN G n).E sc ε e).bind (fun q => f.map (q :: ·)) = some (q :: qs) := by
  rw [he, Option.bind_some, h]; rfl
theorem kNilA {m : Nat} {rest : List Stmt} {k : LEnv × Fl → Option β} {R : Option β} (h : K G m sc ε rest k = R) : K G (n + 1) sc ε [] (aft (evN G m) sc rest k) = R := h
theorem kNilL {f : LEnv → Option (LEnv × Fl)} {k : LEnv × Fl → Option β} {R : Option β} (h : (f ε).bind k = R) : K G (n + 1) sc ε [] (aftL f k) = R := h
theorem fNilA {ev : Ev} {m : Nat} {tgt : Expr} {body rest : List Stmt} {k : LEnv × Fl → Option β} {R : Option β} (h : K G m sc ε rest k = R) : (forL ev sc tgt body [] ε).bind (aft (evN G m) sc rest k) = R := h
theorem afterA {m : Nat} {rest : List Stmt} {k : LEnv × Fl → Option β} {R : Option β} (h : K G m sc ε rest k = R) : aft (evN G m) sc rest k (ε, .next) = R := h
theorem kAsg {x : Str} {e : Expr} {rest : List Stmt} {k : LEnv × Fl → Option β} {R : Option β} (ho : (G.owns.contains x && ownForm e) = false) (h : (evN G n).E sc ε e = some p) (hs : setV sc ε x p = some ε₁) (hk : K G n sc ε₁ rest k = R) : K G (n + 1) sc ε (.Assign [.Name x px] e pos :: rest) k = R := kNext (asg ho h hs) hk
theorem kAug {x : Str} {op : Operator} {e : Expr} {rest : List Stmt} {k : LEnv × Fl → Option β} {R : Option β} (hx : ε.vars.lookup x = some p) (he : (evN G n).E sc ε e = some q) (h : augV op p q = some r) (hs : setV sc ε x r = some ε₁) (hk : K G n sc ε₁ rest k = R) : K G (n + 1) sc ε (.AugAssign (.Name x px) op e pos :: rest) k = R := kNext (aug hx he h hs) hk
theorem kAssert {t : Expr} {m : Option Expr} {rest : List Stmt} {k : LEnv × Fl → Option β} {R : Option β} (ht : (evN G n).T sc ε t = some b) (hb : b = true) (hk : K G n sc ε rest k = R) : K G (n + 1) sc ε (.Assert t m pos :: rest) k = R := kNext (assert ht hb) hk
theorem kAsg2 {x y : Str} {py tp vp : Pos} {k₁ kk : Nat} {e₁ e₂ : Expr} {rest : List Stmt} {k : LEnv × Fl → Option β} {R : Option β} (hxy : (x == y) = false) (hok : swapOk e₁ e₂ = true) (ho1 : (G.owns.contains x && ownForm e₁) = false) (ho2 : (G.owns.contains y && ownForm e₂) = false) (h1 : (evN G n).E sc ε e₁ = some p) (h2 : (evN G n).E sc ε e₂ = some q) (hs1 : setV sc ε x p = some ε₁) (hs2 : setV sc ε₁ y q = some ε₂)
    (hk : K G n sc ε₂ rest k = R) : K G (n + 1) sc ε (.Assign [.Tuple [.Name x px, .Name y py] k₁ tp] (.Tuple [e₁, e₂] kk vp) pos :: rest) k = R := kNext (asg2 hxy hok ho1 ho2 h1 h2 hs1 hs2) hk
theorem kAsgU {x y : Str} {py tp : Pos} {k₁ : Nat} {e : Expr} {rest : List Stmt} {k : LEnv × Fl → Option β} {R : Option β} (hxy : (x == y) = false) (he : isTup2 e = false) (h : (evN G n).E sc ε e = some p) (hs : bindT sc ε (.Tuple [.Name x px, .Name y py] k₁ tp) p = some ε₁) (hk : K G n sc ε₁ rest k = R) :
    K G (n + 1) sc ε (.Assign [.Tuple [.Name x px, .Name y py] k₁ tp] e pos :: rest) k = R := kNext (asgU hxy he h hs) hk
theorem kDel {x : Str} {i : Expr} {sp : Pos} {l l' : List PV} {j : Int} {rest : List Stmt} {k : LEnv × Fl → Option β} {R : Option β} (ho : ε.own = some (x, l)) (hi : (evN G n).E sc ε i = some (.int j)) (h : delAt l j = some l') (hk : K G n sc { ε with own := some (x, l') } rest k = R) :
    K G (n + 1) sc ε (.Delete [.Subscript (.Name x px) i sp] pos :: rest) k = R := kNext (del ho hi h) hk
theorem iT {α : Type} {x y r : α} (hb : b = true) (h : x = r) : (if b then x else y) = r := by rw [if_pos hb, h]
theorem iF {α : Type} {x y r : α} (hb : b = false) (h : y = r) : (if b then x else y) = r := by rw [hb, if_neg Bool.false_ne_true, h]

-- functions
theorem fnR {x : Str} {fi : FnI} (hf : G.fns.lookup x = some fi) (hl : (fi.params.length == ps.length) = true) (h : (evN G n).S fi.scope { vars := fi.params.zip ps } fi.body = some (ε', .ret p)) : (evN G (n + 1)).F x ps = some p := by
  show (G.fns.lookup x).bind _ = _
  rw [hf, Option.bind_some, if_pos hl, h]; rfl
noncomputable def fin : LEnv × Fl → Option PV := fun r => match r.2 with
  | .ret p => some p
  | .next => some .none
theorem fn {x : Str} {fi : FnI} {R : Option PV} (hf : G.fns.lookup x = some fi) (hl : (fi.params.length == ps.length) = true) (h : K G n fi.scope { vars := fi.params.zip ps } fi.body fin = R) : (evN G (n + 1)).F x ps = R := by
  show (G.fns.lookup x).bind _ = _
  rw [hf, Option.bind_some, if_pos hl, ← h]
  unfold K
  cases (evN G n).S fi.scope { vars := fi.params.zip ps } fi.body with
  | none => rfl
  | some r => obtain ⟨ε, fl⟩ := r; cases fl <;> rfl

theorem ifC {t a d : Expr} {x y : Nat} (ht : (evN G n).T sc ε t = some b) (ha : (evN G n).E sc ε a = some (.str ⟨#[x]⟩ false)) (hc : (evN G n).E sc ε d = some (.str ⟨#[y]⟩ false)) : (evN G (n + 1)).E sc ε (.IfExp t a d pos) = some (.str ⟨#[if b then x else y]⟩ false) := by
  cases b with
  | true => exact ifT ht rfl ha
  | false => exact ifF ht rfl hc
theorem del0 {l : List PV} : delAt (p :: l) 0 = some l := by
  have : idxAt (p :: l).length 0 = some 0 := by
    unfold idxAt
    rw [if_pos (by decide), if_pos (by decide), if_pos (by rw [List.length_cons]; omega)]; rfl
  unfold delAt
  rw [this]; rfl
theorem del1 : delAt [p] (-1) = some [] := rfl
theorem del2 : delAt [p, q] (-1) = some [p] := rfl
theorem del3 : delAt [p, q, r] (-1) = some [p, q] := rfl
-- letters, told as a list
section
variable {vs vs' : List (Str × PV)} {ow : Option (Str × List PV)}
theorem updN {x : Str} : upd x p [] = [(x, p)] := rfl
theorem updE {x y : Str} (h : (y == x) = true) : upd x p ((y, q) :: vs) = (x, p) :: vs := by
  unfold upd; rw [h, if_pos rfl]
theorem updF {x y : Str} (h : (y == x) = false) (hr : upd x p vs = vs') : upd x p ((y, q) :: vs) = (y, q) :: vs' := by
  show (if y == x then _ else _) = _
  rw [h, if_neg Bool.false_ne_true, hr]
theorem setL {x : Str} (ho : isOwn ⟨vs, ow⟩ x = false) (hl : (sc.names.lookup x == some .local || sc.names.lookup x == some .cell) = true) (hu : upd x p vs = vs') : setV sc ⟨vs, ow⟩ x p = some ⟨vs', ow⟩ := by
  refine (if_pos ?_).trans (by rw [← hu])
  rw [ho]; exact hl
theorem bindN {x : Str} (h : setV sc ε x p = some ε₁) : bindT sc ε (.Name x px) p = some ε₁ := h
theorem bind2 {x y : Str} {py tp : Pos} {k : Nat} (h : setV sc ε x p = some ε₁) (h2 : setV sc ε₁ y q = some ε₂) : bindT sc ε (.Tuple [.Name x px, .Name y py] k tp) (.tup [p, q]) = some ε₂ := by
  show (setV sc ε x p).bind (fun ε => setV sc ε y q) = _
  rw [h, Option.bind_some, h2]
theorem bind2L {x y : Str} {py tp : Pos} {k : Nat} (h : setV sc ε x p = some ε₁) (h2 : setV sc ε₁ y q = some ε₂) : bindT sc ε (.Tuple [.Name x px, .Name y py] k tp) (.lst [p, q]) = some ε₂ := by
  show (setV sc ε x p).bind (fun ε => setV sc ε y q) = _
  rw [h, Option.bind_some, h2]
theorem filN {f : Str × PV → Bool} : [].filter f = [] := rfl
theorem filT {f : Str × PV → Bool} {a : Str × PV} (h : f a = true) (hr : vs.filter f = vs') : (a :: vs).filter f = a :: vs' := by rw [List.filter_cons, if_pos h, hr]
theorem filF {f : Str × PV → Bool} {a : Str × PV} (h : f a = false) (hr : vs.filter f = vs') : (a :: vs).filter f = vs' := by rw [List.filter_cons, h, if_neg Bool.false_ne_true, hr]
theorem putO {x : Str} {l : List PV} (hl : (sc.names.lookup x == some .local && !(x == ("__debug__" : Str))) = true) (hf : vs.filter (fun (y, _) => !(y == x)) = vs') : putOwn sc ⟨vs, none⟩ x l = some ⟨vs', some (x, l)⟩ := by
  unfold putOwn
  rw [if_pos (by rw [Bool.and_assoc, hl]; rfl), hf]
theorem lcomp' {elt tgt iter : Expr} {ifs : List Expr} {s : Scope} (hc : compOk s sc tgt = true) (hi : iterV G (evN G n) sc ⟨vs, ow⟩ tgt iter = some ps) (hl : ps.length ≤ lim) (hf : vs.filter (fun (y, _) => s.names.lookup y == some .free) = vs') (h : compE (evN G n) (relab s sc) ⟨vs', none⟩ tgt ifs elt ps = some qs) :
    (evN G (n + 1)).E sc ⟨vs, ow⟩ (.ListComp elt [⟨tgt, iter, ifs, 0⟩] s pos) = some (.lst qs) :=
  lcomp hc hi hl (by show compE _ _ ⟨vs.filter (fun (y, _) => s.names.lookup y == some .free), none⟩ _ _ _ _ = _; rw [hf]; exact h)
theorem strs0 : strsV [] = [] := rfl
theorem strs1 {s : Str} {l : List Str} (h : strsV l = ps) : strsV (s :: l) = .str s false :: ps := by
  unfold strsV at *
  rw [List.map_cons, h]
theorem kOwn {x : Str} {o a : Expr} {m : Str} {ap cp : Pos} {u y : Str} {g1 g2 : Bool} {zs : List Str} {rest : List Stmt} {k : LEnv × Fl → Option β} {R : Option β} (hw : (G.owns.contains x && ownForm (.Call (.Attribute o m ap) [a] [] cp)) = true) (hc : (ap.endLine == cp.line && notSuper o) = true) (ho : (evN G n).E sc ⟨vs, none⟩ o = some (.str u g1)) (ha : (evN G n).E sc ⟨vs, none⟩ a = some (.str y g2)) (hm : mkOf m = some .split)
    (h : (y.length == 0 || decide ((Txt.split u y).length > lim) || decide (u.length > lim)) = false) (hz : Txt.split u y = zs) (hs : strsV zs = ps) (hl : (sc.names.lookup x == some .local && !(x == ("__debug__" : Str))) = true) (hf : vs.filter (fun (y, _) => !(y == x)) = vs') (hk : K G n sc ⟨vs', some (x, ps)⟩ rest k = R) :
    K G (n + 1) sc ⟨vs, none⟩ (.Assign [.Name x px] (.Call (.Attribute o m ap) [a] [] cp) pos :: rest) k = R :=
  kNext (asgO hw (split hc ho ha hm h) (by rw [hz, hs]; exact putO hl hf)) hk
theorem kForOwn {tgt : Expr} {x : Str} {body rest : List Stmt} {l : List PV} {k : LEnv × Fl → Option β} {R : Option β} (hu : upd x (.lst l) vs = vs') (h : (forL (evN G n) sc tgt body l ⟨vs', none⟩).bind (aft (evN G n) sc rest k) = R) : K G (n + 1) sc ⟨vs, some (x, l)⟩ (.For tgt (.Name x px) body [] pos :: rest) k = R :=
  kForO rfl (by show (forL (evN G n) sc tgt body l ⟨upd x (.lst l) vs, none⟩).bind _ = _; rw [hu]; exact h)
theorem del' {x : Str} {i : Expr} {sp : Pos} {l l' : List PV} {j : Int} {rest : List Stmt} {k : LEnv × Fl → Option β} {R : Option β} (hi : (evN G n).E sc ⟨vs, some (x, l)⟩ i = some (.int j)) (h : delAt l j = some l') (hk : K G n sc ⟨vs, some (x, l')⟩ rest k = R) :
    K G (n + 1) sc ⟨vs, some (x, l)⟩ (.Delete [.Subscript (.Name x px) i sp] pos :: rest) k = R := kDel rfl hi h hk
theorem fn' {x : Str} {fi : FnI} {R : Option PV} (hf : G.fns.lookup x = some fi) (hl : (fi.params.length == ps.length) = true) (hz : fi.params.zip ps = vs) (h : K G n fi.scope ⟨vs, none⟩ fi.body fin = R) : (evN G (n + 1)).F x ps = R := fn hf hl (by rw [hz]; exact h)
end

section
theorem upd_same {x : Str} : ∀ {vs : List (Str × PV)}, vs.lookup x = some p → upd x p vs = vs
  | [], h => by cases h
  | (y, q) :: r, h => by
    rw [List.lookup_cons] at h
    unfold upd
    by_cases e : x = y
    · subst e
      rw [beq_self_eq_true] at h
      cases h
      rw [if_pos (beq_self_eq_true x)]
    · rw [beq_eq_false_iff_ne.mpr e] at h
      rw [if_neg (by rw [beq_eq_false_iff_ne.mpr (Ne.symm e)]; exact Bool.false_ne_true), upd_same h]
variable {vs vs' : List (Str × PV)} {ow : Option (Str × List PV)}
/-- an if that only adds to a number -/
theorem kIfAdd {t e : Expr} {x : Str} {ap : Pos} {i j : Int} {rest : List Stmt} {k : LEnv × Fl → Option β} {R : Option β} (ht : (evN G (n + 1)).T sc ⟨vs, ow⟩ t = some b) (hx : vs.lookup x = some (.int i)) (he : (evN G n).E sc ⟨vs, ow⟩ e = some (.int j)) (hs : setV sc ⟨vs, ow⟩ x (.int (if b then i + j else i)) = some ⟨vs', ow⟩)
    (hk : K G (n + 1) sc ⟨vs', ow⟩ rest k = R) : K G (n + 2) sc ⟨vs, ow⟩ (.If t [.AugAssign (.Name x px) .Add e ap] [] pos :: rest) k = R := by
  refine kIf ht ?_
  cases b with
  | true =>
    refine iT rfl ?_
    refine kAug hx he rfl hs ?_
    cases n with
    | zero => cases he
    | succ n => exact kNilA hk
  | false =>
    refine iF rfl ?_
    refine kNilA ?_
    have e : vs' = vs := by
      have hu : upd x (.int i) vs = vs := upd_same hx
      have hs := (if_some hs).2
      injection hs with hs
      exact hs.symm.trans hu
    rw [← e]; exact hk
end

theorem exEv {ev : Ev} {tgt elt : Expr} (h1 : bindT sc ε tgt p = some ε₁) (h2 : ev.E sc ε₁ elt = some q) : ∃ ε₁, bindT sc ε tgt p = some ε₁ ∧ ev.E sc ε₁ elt = some q := ⟨_, h1, h2⟩
end
end Y
end Mine
end

section
set_option maxHeartbeats 4000000
open PySem PySem.Calls PyProof.Rows PySem.Spec PySem.Builtin PySem.Builtin.Str PySem.W
namespace Mine
noncomputable def G2 : GCtx := { fns := fnsOf PySem.Challenge.pw_ti0039_02, consts := [(("ELLIPSIS_MARKER" : Str), .str "..." false)], owns := ["ws", "ring"], hdr := some "Headers", dicts := false }

/-- a way from the ground, the last turn first: b is true -/
abbrev Way := List Bool
noncomputable def pth (p : Way) : Str := ⟨(p.reverse.map fun b => if b then 98 else 97).toArray⟩
noncomputable def pv (p : Way) : PV := .str (pth p) p.isEmpty
noncomputable def posts7 : List Way := [[], [false], [true], [false, false], [true, false], [false, true], [true, true]]
noncomputable def doors8 : List Way := [[false, false, false], [true, false, false], [false, true, false], [true, true, false], [false, false, true], [true, false, true], [false, true, true], [true, true, true]]
noncomputable def numW : Way → Nat
  | [] => 1
  | b :: p => 2 * numW p + (if b then 1 else 0)
/-- is the post turned in plan n -/
noncomputable def tn (n : Nat) (p : Way) : Bool := n / 2 ^ (7 - numW p) % 2 == 1
noncomputable def act (T : Way → Bool) : Way → Way
  | [] => []
  | b :: p => (b != T p) :: act T p
noncomputable def wA (n : Nat) : Nat := 65 + n / 16
noncomputable def wB (n : Nat) : Nat := 65 + n % 16
end Mine
end

section
set_option maxHeartbeats 1000000
open PySem PySem.Calls PyProof.Rows PySem.Spec PySem.Builtin PySem.Builtin.Str PySem.W
namespace Mine

theorem act_cons (T : Way → Bool) (b : Bool) (p : Way) : act T (b :: p) = (b != T p) :: act T p := rfl
theorem bne_inj {a b c : Bool} (h : (a != c) = (b != c)) : a = b := by cases a <;> cases b <;> cases c <;> first | rfl | cases h
theorem bne_3 (a b c : Bool) : ((a != b) != c) = (a != (b != c)) := by cases a <;> cases b <;> cases c <;> rfl
theorem act_inj (T : Way → Bool) : ∀ {p q : Way}, act T p = act T q → p = q
  | [], [], _ => rfl
  | [], _ :: _, h => nomatch h
  | _ :: _, [], h => nomatch h
  | b :: p, c :: q, h => by
    rw [act_cons, act_cons] at h
    injection h with h1 h2
    have e := act_inj T h2
    subst e
    rw [bne_inj h1]
theorem act_drop (T : Way → Bool) : ∀ (k : Nat) (p : Way), (act T p).drop k = act T (p.drop k)
  | 0, _ => rfl
  | _ + 1, [] => rfl
  | k + 1, _ :: p => act_drop T k p
theorem act_act (T1 T2 : Way → Bool) : ∀ p : Way, act T2 (act T1 p) = act (fun p => T1 p != T2 (act T1 p)) p
  | [] => rfl
  | b :: p => by
    rw [act_cons, act_cons, act_cons, act_act T1 T2 p, bne_3]

noncomputable def elemW (l : List Way) (p : Way) : Bool := l.any (· == p)
noncomputable def dedupW : List Way → List Way → List Way
  | acc, [] => acc
  | acc, x :: r => if elemW acc x then dedupW acc r else dedupW (acc ++ [x]) r
noncomputable def front (k : Nat) (l : List Way) : List Way := dedupW [] (l.map (·.drop k))
noncomputable def cntW (T : Way → Bool) (l : List Way) : Nat := ((posts7.filter T).filter (elemW l)).length
noncomputable def growW (T1 T2 : Way → Bool) (ring btw : List Way) : Nat → Nat → Bool
  | 0, size => ring.length == size
  | k + 1, size => if (front (k + 1) ring).length == size then growW T1 T2 ring btw k (size * (1 + (cntW T1 (front (k + 1) ring) + cntW T2 (front (k + 1) btw)) % 2)) else false
noncomputable def grow1 (T : Way → Bool) (ring : List Way) : Nat → Nat → Bool
  | 0, size => ring.length == size
  | k + 1, size => if (front (k + 1) ring).length == size then grow1 T ring k (size * (1 + cntW T (front (k + 1) ring) % 2)) else false
noncomputable def ringW (h : Way → Way) : Nat → List Way → Way → List Way
  | 0, ring, _ => ring
  | k + 1, ring, met => if elemW ring met then ring else ringW h k (ring ++ [met]) (h met)
noncomputable def ringEnd (h : Way → Way) : Nat → List Way → Way → Bool
  | 0, ring, met => elemW ring met
  | k + 1, ring, met => elemW ring met || ringEnd h k (ring ++ [met]) (h met)
noncomputable def loopW (h : Way → Way) (gr : List Way → Bool) : List Way → Nat → List Way → Option Nat
  | [], r, _ => some r
  | q :: qs, r, seen => if elemW seen q then loopW h gr qs r seen else if gr (ringW h 8 [] q) then loopW h gr qs (r + 1) (seen ++ ringW h 8 [] q) else none
noncomputable def tb (x1 x2 x3 x4 x5 x6 x7 : Bool) : Way → Bool
  | [] => x1
  | [b] => if b then x3 else x2
  | b :: c :: _ => if c then (if b then x7 else x6) else (if b then x5 else x4)
noncomputable def low (T : Way → Bool) : Bool := T [] && (T [false] != T [true]) && (T [false, false] != (T [true, false] != (T [false, true] != T [true, true])))
noncomputable def finW (T : Way → Bool) : Bool := (doors8.all fun q => ringEnd (act T) 8 [] q && elemW doors8 (act T q)) && (match loopW (act T) (fun ring => grow1 T ring 3 1) doors8 0 [] with
  | some r => (r == 1) == low T
  | none => false)
theorem fin_tb : ∀ x1 x2 x3 x4 x5 x6 x7 : Bool, finW (tb x1 x2 x3 x4 x5 x6 x7) = true := by decide +kernel

theorem elem_map {f : Way → Way} (hf : ∀ p q, f p = f q → p = q) (l : List Way) (p : Way) : elemW (l.map f) (f p) = elemW l p := by
  unfold elemW
  rw [List.any_map]
  congr 1
  funext q
  by_cases e : q = p
  · subst e
    show (f q == f q) = (q == q)
    rw [beq_self_eq_true, beq_self_eq_true]
  · have e' : f q ≠ f p := fun z => e (hf _ _ z)
    show (f q == f p) = (q == p)
    rw [beq_eq_false_iff_ne.mpr e, beq_eq_false_iff_ne.mpr e']
theorem dedup_mapW {f : Way → Way} (hf : ∀ p q, f p = f q → p = q) : ∀ (l acc : List Way), dedupW (acc.map f) (l.map f) = (dedupW acc l).map f
  | [], _ => rfl
  | x :: r, acc => by
    show (if elemW (acc.map f) (f x) then dedupW (acc.map f) (r.map f) else dedupW (acc.map f ++ [f x]) (r.map f)) = (if elemW acc x then dedupW acc r else dedupW (acc ++ [x]) r).map f
    rw [elem_map hf]
    cases elemW acc x with
    | true => rw [if_pos rfl, if_pos rfl, dedup_mapW hf r acc]
    | false =>
      rw [if_neg Bool.false_ne_true, if_neg Bool.false_ne_true, ← dedup_mapW hf r (acc ++ [x]), List.map_append]; rfl
theorem front_act (T : Way → Bool) (k : Nat) (l : List Way) : front k (l.map (act T)) = (front k l).map (act T) := by
  unfold front
  rw [← dedup_mapW (fun _ _ => act_inj T) _ [], List.map_map, List.map_map]
  exact congrArg (dedupW []) (List.map_congr_left fun p _ => act_drop T k p)

theorem cnt_is (T : Way → Bool) (l : List Way) : cntW T l = posts7.countP (fun p => T p && elemW l p) := by
  unfold cntW
  rw [List.filter_filter, List.countP_eq_length_filter]
  congr 2
  funext p
  exact Bool.and_comm ..
theorem perm7 (x y z : Bool) : [[], [false != x], [true != x], [false != y, false != x], [true != y, false != x], [false != z, true != x], [true != z, true != x]].Perm posts7 := by
  cases x <;> cases y <;> cases z <;> decide
theorem parity (a b : Way → Bool) : ∀ l : List Way, (l.countP a + l.countP b) % 2 = l.countP (fun p => a p != b p) % 2
  | [] => rfl
  | p :: l => by
    have ih := parity a b l
    rw [List.countP_cons, List.countP_cons, List.countP_cons]
    cases a p <;> cases b p <;> simp <;> omega
theorem cnt_both (T1 T2 T : Way → Bool) (h : ∀ p ∈ posts7, T p = (T1 p != T2 (act T1 p))) (l : List Way) : (cntW T1 l + cntW T2 (l.map (act T1))) % 2 = cntW T l % 2 := by
  rw [cnt_is, cnt_is, cnt_is]
  have e : posts7.countP (fun p => T2 p && elemW (l.map (act T1)) p) = posts7.countP (fun p => T2 (act T1 p) && elemW l p) := by
    rw [← (perm7 (T1 []) (T1 [false]) (T1 [true])).countP_eq]
    show (posts7.map (act T1)).countP _ = _
    rw [List.countP_map]
    congr 1
    funext p
    show (T2 (act T1 p) && elemW (l.map (act T1)) (act T1 p)) = _
    rw [elem_map (fun _ _ => act_inj T1)]
  rw [e, parity]
  congr 1
  refine List.countP_congr fun p hp => ?_
  rw [h p hp]
  cases T1 p <;> cases T2 (act T1 p) <;> cases elemW l p <;> simp
theorem grow_both (T1 T2 T : Way → Bool) (h : ∀ p ∈ posts7, T p = (T1 p != T2 (act T1 p))) (ring : List Way) : ∀ k size, growW T1 T2 ring (ring.map (act T1)) k size = grow1 T ring k size
  | 0, _ => rfl
  | k + 1, size => by
    show (if _ then _ else _) = (if _ then _ else _)
    rw [front_act, cnt_both T1 T2 T h, grow_both T1 T2 T h ring k]

/-- both plans as one -/
noncomputable def both (T1 T2 : Way → Bool) : Way → Bool :=
  tb (T1 [] != T2 []) (T1 [false] != T2 (act T1 [false])) (T1 [true] != T2 (act T1 [true])) (T1 [false, false] != T2 (act T1 [false, false])) (T1 [true, false] != T2 (act T1 [true, false])) (T1 [false, true] != T2 (act T1 [false, true])) (T1 [true, true] != T2 (act T1 [true, true]))
theorem both_at (T1 T2 : Way → Bool) : ∀ p ∈ posts7, both T1 T2 p = (T1 p != T2 (act T1 p)) := by
  intro p hp
  unfold posts7 at hp
  simp only [List.mem_cons, List.not_mem_nil, or_false] at hp
  rcases hp with rfl | rfl | rfl | rfl | rfl | rfl | rfl <;> rfl
theorem both_act (T1 T2 : Way → Bool) : ∀ q ∈ doors8, act T2 (act T1 q) = act (both T1 T2) q := by
  intro q hq
  rw [act_act]
  unfold doors8 at hq
  simp only [List.mem_cons, List.not_mem_nil, or_false] at hq
  rcases hq with rfl | rfl | rfl | rfl | rfl | rfl | rfl | rfl <;> rfl
theorem low_both (T1 T2 : Way → Bool) : low (both T1 T2) = ((T1 [] != T2 []) && ((T1 [false] != T1 [true]) != (T2 [false] != T2 [true])) &&
    ((T1 [false, false] != (T1 [true, false] != (T1 [false, true] != T1 [true, true]))) != (T2 [false, false] != (T2 [true, false] != (T2 [false, true] != T2 [true, true]))))) := by
  show ((T1 [] != T2 []) && ((T1 [false] != T2 [false != T1 []]) != (T1 [true] != T2 [true != T1 []])) &&
    ((T1 [false, false] != T2 [false != T1 [false], false != T1 []]) != ((T1 [true, false] != T2 [true != T1 [false], false != T1 []]) != ((T1 [false, true] != T2 [false != T1 [true], true != T1 []]) != (T1 [true, true] != T2 [true != T1 [true], true != T1 []]))))) = _
  generalize T1 [] = x
  generalize T1 [false] = y
  generalize T1 [true] = z
  generalize T1 [false, false] = a
  generalize T1 [true, false] = b
  generalize T1 [false, true] = c
  generalize T1 [true, true] = d
  generalize T2 [] = x'
  have xr : ∀ p q r s t u v w : Bool, ((p != t) != ((q != u) != ((r != v) != (s != w)))) = ((p != (q != (r != s))) != (t != (u != (v != w)))) := by decide
  have x2 : ∀ p q t u : Bool, ((p != t) != (q != u)) = ((p != q) != (t != u)) := by decide
  rw [xr, x2]
  congr 1
  · congr 2
    cases x
    · rfl
    · exact Bool.xor_comm ..
  · congr 1
    have c2 : ∀ p q : Bool, (p != q) = (q != p) := by decide
    have sw : ∀ p q r s : Bool, (p != (q != (r != s))) = (r != (s != (p != q))) := by decide
    have sl : ∀ p q r : Bool, (p != (q != r)) = (q != (p != r)) := by decide
    cases x <;> cases y <;> cases z
    · rfl
    · show (T2 [false, false] != (T2 [true, false] != (T2 [true, true] != T2 [false, true]))) = _
      rw [c2 (T2 [true, true])]
    · show (T2 [true, false] != (T2 [false, false] != (T2 [false, true] != T2 [true, true]))) = _
      rw [sl]
    · show (T2 [true, false] != (T2 [false, false] != (T2 [true, true] != T2 [false, true]))) = _
      rw [sl, c2 (T2 [true, true])]
    · show (T2 [false, true] != (T2 [true, true] != (T2 [false, false] != T2 [true, false]))) = _
      rw [sw]
    · show (T2 [false, true] != (T2 [true, true] != (T2 [true, false] != T2 [false, false]))) = _
      rw [c2 (T2 [true, false]), sw]
    · show (T2 [true, true] != (T2 [false, true] != (T2 [false, false] != T2 [true, false]))) = _
      rw [sl, sw]
    · show (T2 [true, true] != (T2 [false, true] != (T2 [true, false] != T2 [false, false]))) = _
      rw [c2 (T2 [true, false]), sl, sw]
end Mine
end

section
set_option maxHeartbeats 4000000
open PySem PySem.Calls PyProof.Rows PySem.Spec PySem.Builtin PySem.Builtin.Str PySem.W
namespace Mine

noncomputable def eqPV : PV → PV → Bool
  | .str a g, q => (match q with
    | .str b g' => a == b && g == g'
    | _ => false)
  | .int a, q => (match q with
    | .int b => a == b
    | _ => false)
  | .bool a, q => (match q with
    | .bool b => a == b
    | _ => false)
  | .bytes a, q => (match q with
    | .bytes b => a == b
    | _ => false)
  | _, _ => false
theorem eqPV_is {p q : PV} (h : eqPV p q = true) : p = q := by
  cases p with
  | str a g => cases q with
    | str b g' =>
      have h : (a == b && g == g') = true := h
      rw [Bool.and_eq_true, beq_iff_eq, beq_iff_eq] at h
      rw [h.1, h.2]
    | _ => exact no_ft h
  | int a => cases q with
    | int b => rw [beq_iff_eq.mp (show (a == b) = true from h)]
    | _ => exact no_ft h
  | bool a => cases q with
    | bool b => rw [beq_iff_eq.mp (show (a == b) = true from h)]
    | _ => exact no_ft h
  | bytes a => cases q with
    | bytes b => rw [beq_iff_eq.mp (show (a == b) = true from h)]
    | _ => exact no_ft h
  | _ => exact no_ft h
noncomputable def eqPVs : List PV → List PV → Bool
  | [], q => q.isEmpty
  | a :: r, q => (match q with
    | [] => false
    | b :: t => eqPV a b && eqPVs r t)
theorem eqPVs_is : ∀ {p q : List PV}, eqPVs p q = true → p = q
  | [], [], _ => rfl
  | [], _ :: _, h => no_ft h
  | _ :: _, [], h => no_ft h
  | a :: r, b :: t, h => by
    have h : (eqPV a b && eqPVs r t) = true := h
    rw [Bool.and_eq_true] at h
    rw [eqPV_is h.1, eqPVs_is h.2]
noncomputable def isPV (o : Option PV) (p : PV) : Bool := match o with
  | some q => eqPV q p
  | none => false
theorem isPV_is {o : Option PV} {p : PV} (h : isPV o p = true) : o = some p := by
  cases o with
  | some q => rw [eqPV_is h]
  | none => exact no_ft h
noncomputable def isLst (o : Option PV) (l : List PV) : Bool := match o.bind asLst with
  | some q => eqPVs q l
  | none => false
theorem isLst_is {o : Option PV} {l : List PV} (h : isLst o l = true) : o = some (.lst l) := by
  cases o with
  | none => exact no_ft h
  | some p => cases p with
    | lst m => rw [eqPVs_is (show eqPVs m l = true from h)]
    | _ => exact no_ft h

noncomputable def isPre (p q : Way) : Bool := q.drop (q.length - p.length) == p
noncomputable def dots (p : Way) : Str := ⟨(p.reverse.map fun b => if b then 98 else 97).toArray ++ #[46, 46, 46]⟩
noncomputable def apB (n : Nat) : List UInt8 := [UInt8.ofNat (wA n), UInt8.ofNat (wB n)]
noncomputable def wordP (n : Nat) : PV := .str ⟨#[wA n, wB n]⟩ false

theorem t_path (k : Nat) : (posts7 ++ doors8).all (fun p => isPV ((evN G2 (k + 40)).F "_law_path" [.int (numW p : Nat)]) (pv p)) = true := by kernel_rfl
theorem t_ap (k : Nat) : (List.range 128).all (fun n => isPV ((evN G2 (k + 40)).F "Int2AP" [.int (128 + n : Nat)]) (.bytes (apB (128 + n)))) = true := by kernel_rfl
theorem t_apn (k : Nat) : (List.range 128).all (fun n => isPV ((evN G2 (k + 40)).F "Int2AP" [.int (-((128 + n : Nat) : Int))]) (.bytes (apB (128 + n)))) = true := by kernel_rfl
theorem t_turn0 (k : Nat) : (List.range 32).all (fun n => isLst ((evN G2 (k + 60)).F "_law_turned" [wordP (128 + (0 + n))]) ((posts7.filter (tn (128 + (0 + n)))).map pv)) = true := by kernel_rfl
theorem t_turn1 (k : Nat) : (List.range 32).all (fun n => isLst ((evN G2 (k + 60)).F "_law_turned" [wordP (128 + (32 + n))]) ((posts7.filter (tn (128 + (32 + n)))).map pv)) = true := by kernel_rfl
theorem t_turn2 (k : Nat) : (List.range 32).all (fun n => isLst ((evN G2 (k + 60)).F "_law_turned" [wordP (128 + (64 + n))]) ((posts7.filter (tn (128 + (64 + n)))).map pv)) = true := by kernel_rfl
theorem t_turn3 (k : Nat) : (List.range 32).all (fun n => isLst ((evN G2 (k + 60)).F "_law_turned" [wordP (128 + (96 + n))]) ((posts7.filter (tn (128 + (96 + n)))).map pv)) = true := by kernel_rfl
theorem t_mat (k : Nat) (g : Bool) : (posts7.all fun p => doors8.all fun q => isPV ((evN G2 (k + 60)).F "_ellipsis_match" [.str (dots p) false, .str (pth q) g]) (.bool (isPre p q))) = true := by kernel_rfl

theorem path_F (k : Nat) {p : Way} (hp : p ∈ posts7 ++ doors8) : (evN G2 (k + 40)).F "_law_path" [.int (numW p : Nat)] = some (pv p) := isPV_is (List.all_eq_true.mp (t_path k) p hp)
theorem ap_F (k : Nat) {n : Nat} (h : n < 128) : (evN G2 (k + 40)).F "Int2AP" [.int (128 + n : Nat)] = some (.bytes (apB (128 + n))) := isPV_is (List.all_eq_true.mp (t_ap k) n (List.mem_range.mpr h))
theorem apn_F (k : Nat) {n : Nat} (h : n < 128) : (evN G2 (k + 40)).F "Int2AP" [.int (-((128 + n : Nat) : Int))] = some (.bytes (apB (128 + n))) := isPV_is (List.all_eq_true.mp (t_apn k) n (List.mem_range.mpr h))
theorem turn_F (k : Nat) {n : Nat} (h : n < 128) : (evN G2 (k + 60)).F "_law_turned" [wordP (128 + n)] = some (.lst ((posts7.filter (tn (128 + n))).map pv)) := by
  have go : ∀ b m, n = b + m → m < 32 → ((List.range 32).all (fun n => isLst ((evN G2 (k + 60)).F "_law_turned" [wordP (128 + (b + n))]) ((posts7.filter (tn (128 + (b + n)))).map pv)) = true) → (evN G2 (k + 60)).F "_law_turned" [wordP (128 + n)] = some (.lst ((posts7.filter (tn (128 + n))).map pv)) := fun b m e hm t => by
    rw [e]; exact isLst_is (List.all_eq_true.mp t m (List.mem_range.mpr hm))
  by_cases h1 : n < 32
  · exact go 0 n (Nat.zero_add n).symm h1 (t_turn0 k)
  · by_cases h2 : n < 64
    · exact go 32 (n - 32) (by omega) (by omega) (t_turn1 k)
    · by_cases h3 : n < 96
      · exact go 64 (n - 64) (by omega) (by omega) (t_turn2 k)
      · exact go 96 (n - 96) (by omega) (by omega) (t_turn3 k)
theorem mat_F (k : Nat) (g : Bool) {p q : Way} (hp : p ∈ posts7) (hq : q ∈ doors8) : (evN G2 (k + 60)).F "_ellipsis_match" [.str (dots p) false, .str (pth q) g] = some (.bool (isPre p q)) :=
  isPV_is (List.all_eq_true.mp (List.all_eq_true.mp (t_mat k g) p hp) q hq)

-- _law_reckoned: one turn
inductive Reck (d a i p l : PV) : PV → PV → Prop
  | mk (y e s m x w f u g l' v p' : PV) (h1 : binV .Pow (.int 2) d = some y) (h2 : binV .FloorDiv i y = some e) (h3 : binV .Mod e (.int 2) = some s) (h4 : binV .Mult (.int 2) l = some m) (h5 : binV .Sub (.int 7) p = some x) (h6 : binV .Pow (.int 2) x = some w) (h7 : binV .FloorDiv a w = some f)
    (h8 : binV .Add s f = some u) (h9 : binV .Mod u (.int 2) = some g) (h10 : binV .Add m g = some l') (h11 : binV .Mult (.int 2) p = some v) (h12 : binV .Add v s = some p') : Reck d a i p l p' l'
noncomputable def reckB (d a i p l : PV) : Option (PV × PV) := (binV .Pow (.int 2) d).bind fun y => (binV .FloorDiv i y).bind fun e => (binV .Mod e (.int 2)).bind fun s => (binV .Mult (.int 2) l).bind fun m => (binV .Sub (.int 7) p).bind fun x => (binV .Pow (.int 2) x).bind fun w =>
  (binV .FloorDiv a w).bind fun f => (binV .Add s f).bind fun u => (binV .Mod u (.int 2)).bind fun g => (binV .Add m g).bind fun l' => (binV .Mult (.int 2) p).bind fun v => (binV .Add v s).bind fun p' => some (p', l')
theorem reckB_is {d a i p l : PV} {r : PV × PV} (h : reckB d a i p l = some r) : Reck d a i p l r.1 r.2 := by
  obtain ⟨y, h1, h⟩ := Option.bind_eq_some_iff.mp h
  obtain ⟨e, h2, h⟩ := Option.bind_eq_some_iff.mp h
  obtain ⟨s, h3, h⟩ := Option.bind_eq_some_iff.mp h
  obtain ⟨m, h4, h⟩ := Option.bind_eq_some_iff.mp h
  obtain ⟨x, h5, h⟩ := Option.bind_eq_some_iff.mp h
  obtain ⟨w, h6, h⟩ := Option.bind_eq_some_iff.mp h
  obtain ⟨f, h7, h⟩ := Option.bind_eq_some_iff.mp h
  obtain ⟨u, h8, h⟩ := Option.bind_eq_some_iff.mp h
  obtain ⟨g, h9, h⟩ := Option.bind_eq_some_iff.mp h
  obtain ⟨l', h10, h⟩ := Option.bind_eq_some_iff.mp h
  obtain ⟨v, h11, h⟩ := Option.bind_eq_some_iff.mp h
  obtain ⟨p', h12, h⟩ := Option.bind_eq_some_iff.mp h
  obtain rfl := Option.some.inj h
  exact ⟨y, e, s, m, x, w, f, u, g, l', v, p', h1, h2, h3, h4, h5, h6, h7, h8, h9, h10, h11, h12⟩
noncomputable def reck3 (a i : PV) : Option PV := (reckB (.int 2) a i (.int 1) (.int 0)).bind fun r => (reckB (.int 1) a i r.1 r.2).bind fun r => (reckB (.int 0) a i r.1 r.2).map (·.2)
noncomputable def numD (q : Way) : Int := (numW q - 8 : Nat)
theorem t_reck : ((List.range 128).all fun n => doors8.all fun q => isPV (reck3 (.int (128 + n : Nat)) (.int (numD q))) (.int (numD (act (tn (128 + n)) q)))) = true := by kernel_rfl
end Mine
end

section
set_option maxHeartbeats 4000000
open PySem PySem.Calls PyProof.Rows PySem.Spec PySem.Builtin PySem.Builtin.Str PySem.W
namespace Mine
local macro_rules | `(tactic| walk_at "v") => `(tactic| first | with_reducible assumption | rfl)
local macro_rules | `(tactic| walk_at "le") => `(tactic| first | with_reducible assumption | exact Nat.le_of_ble_eq_true rfl)
local macro_rules | `(tactic| walk_at "end") => `(tactic| first | rfl | assumption)
theorem reck_run (n : Nat) {a i p1 l1 p2 l2 p3 l3 : PV} (R2 : Reck (.int 2) a i (.int 1) (.int 0) p1 l1) (R1 : Reck (.int 1) a i p1 l1 p2 l2) (R0 : Reck (.int 0) a i p2 l2 p3 l3) : (evN G2 (n + 60)).F "_law_reckoned" [a, i] = some l3 := by
  obtain ⟨y2, e2, s2, m2, x2, w2, f2, u2, g2, v2, h1, h2, h3, h4, h5, h6, h7, h8, h9, h10, h11, h12⟩ := R2
  obtain ⟨y1, e1, s1, m1, x1, w1, f1, u1, g1, v1, j1, j2, j3, j4, j5, j6, j7, j8, j9, j10, j11, j12⟩ := R1
  obtain ⟨y0, e0, s0, m0, x0, w0, f0, u0, g0, v0, i1, i2, i3, i4, i5, i6, i7, i8, i9, i10, i11, i12⟩ := R0
  refine Y.fn' (vs := [("number", a), ("place", i)]) rfl rfl rfl ?_
  dsimp only
  apply Y.kAsg2
  · rfl
  · rfl
  · rfl
  · rfl
  · exact Y.const rfl
  · exact Y.const rfl
  · exact Y.setL rfl rfl (Y.updF rfl (Y.updF rfl (Y.updN)))
  · exact Y.setL rfl rfl (Y.updF rfl (Y.updF rfl (Y.updF rfl (Y.updN))))
  apply Y.kForP
  · rfl
  · apply Y.iterP
    · rfl
    · apply Y.list
      · apply Y.evs1
        · exact Y.const rfl
        · apply Y.evs1
          · exact Y.const rfl
          · apply Y.evs1
            · exact Y.const rfl
            · exact Y.evs0
      · walk_at "le"
    · walk_at "v"
  apply Y.fStep
  · apply Y.bindN
    exact Y.setL rfl rfl (Y.updF rfl (Y.updF rfl (Y.updF rfl (Y.updF rfl (Y.updN)))))
  apply Y.kAsg
  · rfl
  · apply Y.bin
    · apply Y.bin
      · exact Y.name rfl rfl
      · apply Y.bin
        · exact Y.const rfl
        · exact Y.name rfl rfl
        · walk_at "v"
      · walk_at "v"
    · exact Y.const rfl
    · walk_at "v"
  · exact Y.setL rfl rfl (Y.updF rfl (Y.updF rfl (Y.updF rfl (Y.updF rfl (Y.updF rfl (Y.updN))))))
  apply Y.kAsg
  · rfl
  · apply Y.bin
    · apply Y.bin
      · exact Y.const rfl
      · exact Y.name rfl rfl
      · walk_at "v"
    · apply Y.bin
      · apply Y.bin
        · exact Y.name rfl rfl
        · apply Y.bin
          · exact Y.name rfl rfl
          · apply Y.bin
            · exact Y.const rfl
            · apply Y.bin
              · exact Y.const rfl
              · exact Y.name rfl rfl
              · walk_at "v"
            · walk_at "v"
          · walk_at "v"
        · walk_at "v"
      · exact Y.const rfl
      · walk_at "v"
    · walk_at "v"
  · exact Y.setL rfl rfl (Y.updF rfl (Y.updF rfl (Y.updF rfl (Y.updE rfl))))
  apply Y.kAsg
  · rfl
  · apply Y.bin
    · apply Y.bin
      · exact Y.const rfl
      · exact Y.name rfl rfl
      · walk_at "v"
    · exact Y.name rfl rfl
    · walk_at "v"
  · exact Y.setL rfl rfl (Y.updF rfl (Y.updF rfl (Y.updE rfl)))
  apply Y.kNilL
  apply Y.fStep
  · apply Y.bindN
    exact Y.setL rfl rfl (Y.updF rfl (Y.updF rfl (Y.updF rfl (Y.updF rfl (Y.updE rfl)))))
  apply Y.kAsg
  · rfl
  · apply Y.bin
    · apply Y.bin
      · exact Y.name rfl rfl
      · apply Y.bin
        · exact Y.const rfl
        · exact Y.name rfl rfl
        · walk_at "v"
      · walk_at "v"
    · exact Y.const rfl
    · walk_at "v"
  · exact Y.setL rfl rfl (Y.updF rfl (Y.updF rfl (Y.updF rfl (Y.updF rfl (Y.updF rfl (Y.updE rfl))))))
  apply Y.kAsg
  · rfl
  · apply Y.bin
    · apply Y.bin
      · exact Y.const rfl
      · exact Y.name rfl rfl
      · walk_at "v"
    · apply Y.bin
      · apply Y.bin
        · exact Y.name rfl rfl
        · apply Y.bin
          · exact Y.name rfl rfl
          · apply Y.bin
            · exact Y.const rfl
            · apply Y.bin
              · exact Y.const rfl
              · exact Y.name rfl rfl
              · walk_at "v"
            · walk_at "v"
          · walk_at "v"
        · walk_at "v"
      · exact Y.const rfl
      · walk_at "v"
    · walk_at "v"
  · exact Y.setL rfl rfl (Y.updF rfl (Y.updF rfl (Y.updF rfl (Y.updE rfl))))
  apply Y.kAsg
  · rfl
  · apply Y.bin
    · apply Y.bin
      · exact Y.const rfl
      · exact Y.name rfl rfl
      · walk_at "v"
    · exact Y.name rfl rfl
    · walk_at "v"
  · exact Y.setL rfl rfl (Y.updF rfl (Y.updF rfl (Y.updE rfl)))
  apply Y.kNilL
  apply Y.fStep
  · apply Y.bindN
    exact Y.setL rfl rfl (Y.updF rfl (Y.updF rfl (Y.updF rfl (Y.updF rfl (Y.updE rfl)))))
  apply Y.kAsg
  · rfl
  · apply Y.bin
    · apply Y.bin
      · exact Y.name rfl rfl
      · apply Y.bin
        · exact Y.const rfl
        · exact Y.name rfl rfl
        · walk_at "v"
      · walk_at "v"
    · exact Y.const rfl
    · walk_at "v"
  · exact Y.setL rfl rfl (Y.updF rfl (Y.updF rfl (Y.updF rfl (Y.updF rfl (Y.updF rfl (Y.updE rfl))))))
  apply Y.kAsg
  · rfl
  · apply Y.bin
    · apply Y.bin
      · exact Y.const rfl
      · exact Y.name rfl rfl
      · walk_at "v"
    · apply Y.bin
      · apply Y.bin
        · exact Y.name rfl rfl
        · apply Y.bin
          · exact Y.name rfl rfl
          · apply Y.bin
            · exact Y.const rfl
            · apply Y.bin
              · exact Y.const rfl
              · exact Y.name rfl rfl
              · walk_at "v"
            · walk_at "v"
          · walk_at "v"
        · walk_at "v"
      · exact Y.const rfl
      · walk_at "v"
    · walk_at "v"
  · exact Y.setL rfl rfl (Y.updF rfl (Y.updF rfl (Y.updF rfl (Y.updE rfl))))
  apply Y.kAsg
  · rfl
  · apply Y.bin
    · apply Y.bin
      · exact Y.const rfl
      · exact Y.name rfl rfl
      · walk_at "v"
    · exact Y.name rfl rfl
    · walk_at "v"
  · exact Y.setL rfl rfl (Y.updF rfl (Y.updF rfl (Y.updE rfl)))
  apply Y.kNilL
  apply Y.fNilA
  apply Y.kRet
  · rfl
  · exact Y.name rfl rfl
  · walk_at "end"
theorem reck_F (k : Nat) {n : Nat} (hn : n < 128) {q : Way} (hq : q ∈ doors8) : (evN G2 (k + 60)).F "_law_reckoned" [.int (128 + n : Nat), .int (numD q)] = some (.int (numD (act (tn (128 + n)) q))) := by
  have h := isPV_is (List.all_eq_true.mp (List.all_eq_true.mp t_reck n (List.mem_range.mpr hn)) q hq)
  obtain ⟨r2, h2, h⟩ := Option.bind_eq_some_iff.mp h
  obtain ⟨r1, h1, h⟩ := Option.bind_eq_some_iff.mp h
  obtain ⟨r0, h0, h'⟩ := Option.map_eq_some_iff.mp h
  rw [← h']
  exact reck_run k (reckB_is h2) (reckB_is h1) (reckB_is h0)
end Mine
end

section
set_option maxHeartbeats 4000000
open PySem PySem.Calls PyProof.Rows PySem.Spec PySem.Builtin PySem.Builtin.Str PySem.W
namespace Mine
local macro_rules | `(tactic| walk_at "v") => `(tactic| first | with_reducible assumption | rfl)

namespace Y
section
variable {G : GCtx} {n : Nat} {sc : Scope} {ε ε₁ ε₂ ε' : LEnv} {pos px : Pos} {p q r : PV} {ps qs : List PV} {b : Bool} {β : Type}
theorem lkS {x : Str} {vs : List (Str × PV)} : (upd x p vs).lookup x = some p := by rw [lookup_upd, if_pos rfl]
theorem lkN {x y : Str} {vs : List (Str × PV)} (h : (y == x) = false) : (upd x p vs).lookup y = vs.lookup y := by rw [lookup_upd, if_neg (fun z => absurd (beq_iff_eq.mpr z) (ne_true_of_eq_false h))]
theorem ownN {e : Expr} (ho : ε.own = none) : ownNm ε e = false := by unfold ownNm; rw [ho]
theorem fInv {σ α : Type} (I : σ → LEnv → Prop) {f : α → PV} (step : σ → α → σ) {tgt : Expr} {body : List Stmt} {k : LEnv × Fl → Option β} {R : Option β} : ∀ (l : List α) {s : σ} {ε : LEnv}, I s ε →
    (∀ a ∈ l, ∀ s ε, I s ε → ∀ (k' : LEnv × Fl → Option β), (∀ ε₂, I (step s a) ε₂ → k' (ε₂, .next) = R) → ∃ ε₁, bindT sc ε tgt (f a) = some ε₁ ∧ K G n sc ε₁ body k' = R) → (∀ ε', I (l.foldl step s) ε' → k (ε', .next) = R) → (forL (evN G n) sc tgt body (l.map f) ε).bind k = R
  | [], s, ε, h0, _, h => h ε h0
  | a :: l, s, ε, h0, turn, h => by
    obtain ⟨ε₁, h1, h2⟩ := turn a (List.mem_cons_self ..) s ε h0 (aftL (fun ε' => forL (evN G n) sc tgt body (l.map f) ε') k) fun ε₂ hI => fInv I step l hI (fun a ha => turn a (List.mem_cons_of_mem _ ha)) h
    exact fStep h1 h2
theorem ifP {t a d : Expr} (ht : (evN G n).T sc ε t = some b) (ha : (evN G n).E sc ε a = some p) (hc : (evN G n).E sc ε d = some q) : (evN G (n + 1)).E sc ε (.IfExp t a d pos) = some (if b then p else q) := by
  cases b with
  | true => exact ifT ht rfl ha
  | false => exact ifF ht rfl hc
end
end Y
local macro_rules | `(tactic| walk_at "lk") => `(tactic| first | with_reducible assumption | with_reducible exact Y.lkS | (refine (Y.lkN rfl).trans ?_; walk_at "lk"))

/-- a door led on by one turned post -/
noncomputable def ledS (q r p : Way) : Way := if isPre p q then r.set (2 - p.length) (!(q.getD (2 - p.length) false)) else r
inductive Flip (l d : PV) (D : Int) (r : PV) : Prop
  | mk (x c z w : PV) (b : Bool) (hD : smallI D = true) (hD1 : smallI (D + 1) = true) (h1 : sliceV l none (some D) none = some x) (h2 : idxV d (.int D) = some c) (h3 : cmpV .Eq c (.str "b" true) = some b) (h4 : binV .Add x (if b then .str "a" true else .str "b" true) = some z) (h5 : sliceV l (some (D + 1)) none none = some w) (h6 : binV .Add z w = some r) : Flip l d D r
noncomputable def flipB (l d : PV) (D : Int) : Option PV := (sliceV l none (some D) none).bind fun x => (idxV d (.int D)).bind fun c => (cmpV .Eq c (.str "b" true)).bind fun b => (binV .Add x (if b then .str "a" true else .str "b" true)).bind fun z => (sliceV l (some (D + 1)) none none).bind fun w => binV .Add z w
theorem flipB_is {l d r : PV} {D : Int} (hD : smallI D = true) (hD1 : smallI (D + 1) = true) (h : flipB l d D = some r) : Flip l d D r := by
  obtain ⟨x, h1, h⟩ := Option.bind_eq_some_iff.mp h
  obtain ⟨c, h2, h⟩ := Option.bind_eq_some_iff.mp h
  obtain ⟨b, h3, h⟩ := Option.bind_eq_some_iff.mp h
  obtain ⟨z, h4, h⟩ := Option.bind_eq_some_iff.mp h
  obtain ⟨w, h5, h⟩ := Option.bind_eq_some_iff.mp h
  exact ⟨x, c, z, w, b, hD, hD1, h1, h2, h3, h4, h5, h⟩
theorem t_flip : (posts7.all fun p => doors8.all fun q => doors8.all fun r => smallI (p.length : Nat) && smallI ((p.length : Nat) + 1 : Int) && (!isPre p q || (elemW doors8 (ledS q r p) && isPV (flipB (pv r) (pv q) (p.length : Nat)) (pv (ledS q r p))))) = true := by kernel_rfl
theorem t_dots : (posts7.all fun p => isPV (binV .Add (pv p) (.str "..." true)) (.str (dots p) false) && isPV (builtinV .len [pv p]) (.int (p.length : Nat))) = true := by kernel_rfl
theorem elem_mem {l : List Way} {p : Way} (h : elemW l p = true) : p ∈ l := by
  unfold elemW at h
  obtain ⟨q, hq, e⟩ := List.any_eq_true.mp h
  rw [← beq_iff_eq.mp e]; exact hq
theorem flip_at {p q r : Way} (hp : p ∈ posts7) (hq : q ∈ doors8) (hr : r ∈ doors8) (hi : isPre p q = true) : ledS q r p ∈ doors8 ∧ Flip (pv r) (pv q) (p.length : Nat) (pv (ledS q r p)) := by
  have h := List.all_eq_true.mp (List.all_eq_true.mp (List.all_eq_true.mp t_flip p hp) q hq) r hr
  rw [hi, Bool.and_eq_true, Bool.and_eq_true] at h
  have h2 : (elemW doors8 (ledS q r p) && isPV (flipB (pv r) (pv q) (p.length : Nat)) (pv (ledS q r p))) = true := h.2
  rw [Bool.and_eq_true] at h2
  exact ⟨elem_mem h2.1, flipB_is h.1.1 h.1.2 (isPV_is h2.2)⟩
theorem dots_at {p : Way} (hp : p ∈ posts7) : binV .Add (pv p) (.str "..." true) = some (.str (dots p) false) ∧ builtinV .len [pv p] = some (.int (p.length : Nat)) := by
  have h := List.all_eq_true.mp t_dots p hp
  rw [Bool.and_eq_true] at h
  exact ⟨isPV_is h.1, isPV_is h.2⟩
theorem led_off {p q r : Way} (hi : isPre p q = false) : ledS q r p = r := by unfold ledS; rw [hi]; rfl

theorem fold_filter {σ : Type} (f : σ → Way → σ) (T : Way → Bool) : ∀ (l : List Way) (s : σ), (l.filter T).foldl f s = l.foldl (fun s p => if T p then f s p else s) s
  | [], _ => rfl
  | p :: l, s => by
    rw [List.filter_cons, List.foldl_cons]
    cases T p with
    | true => rw [if_pos rfl, if_pos rfl, List.foldl_cons, fold_filter f T l]
    | false => rw [if_neg Bool.false_ne_true, if_neg Bool.false_ne_true, fold_filter f T l]
noncomputable def fold7 (q : Way) (x1 x2 x3 x4 x5 x6 x7 : Bool) : Way :=
  [(x1, []), (x2, [false]), (x3, [true]), (x4, [false, false]), (x5, [true, false]), (x6, [false, true]), (x7, ([true, true] : Way))].foldl (fun s xp => if xp.1 then ledS q s xp.2 else s) q
theorem fold7_all : ∀ x1 x2 x3 x4 x5 x6 x7 : Bool, (doors8.all fun q => fold7 q x1 x2 x3 x4 x5 x6 x7 == act (tb x1 x2 x3 x4 x5 x6 x7) q) = true := by decide +kernel
theorem led_act (T : Way → Bool) {q : Way} (hq : q ∈ doors8) : (posts7.filter T).foldl (ledS q) q = act T q := by
  rw [fold_filter]
  have h := beq_iff_eq.mp (List.all_eq_true.mp (fold7_all (T []) (T [false]) (T [true]) (T [false, false]) (T [true, false]) (T [false, true]) (T [true, true])) q hq)
  have e : act (tb (T []) (T [false]) (T [true]) (T [false, false]) (T [true, false]) (T [false, true]) (T [true, true])) q = act T q := by
    unfold doors8 at hq
    simp only [List.mem_cons, List.not_mem_nil, or_false] at hq
    rcases hq with rfl | rfl | rfl | rfl | rfl | rfl | rfl | rfl <;> rfl
  rw [← e, ← h]; rfl

theorem led_F (k : Nat) (T : Way → Bool) {q : Way} (hq : q ∈ doors8) : (evN G2 (k + 80)).F "_law_led" [.lst ((posts7.filter T).map pv), pv q] = some (pv (act T q)) := by
  refine Y.fn' (vs := [("turned", .lst ((posts7.filter T).map pv)), ("door", pv q)]) rfl rfl rfl ?_
  dsimp only
  apply Y.kAsg
  · rfl
  · exact Y.name rfl rfl
  · exact Y.setL rfl rfl (Y.updF rfl (Y.updF rfl Y.updN))
  apply Y.kForP
  · rfl
  · apply Y.iterP
    · rfl
    · exact Y.name rfl rfl
    · rfl
  refine Y.fInv (fun (r : Way) ε => ε.own = none ∧ ε.vars.lookup ("door" : Str) = some (pv q) ∧ ε.vars.lookup ("led" : Str) = some (pv r) ∧ r ∈ doors8) (ledS q) _ ⟨rfl, rfl, rfl, hq⟩ (fun p hp r ε hI k' hk => ?_) (fun ε' hI => ?_)
  · obtain ⟨ho, h1, h2, hr⟩ := hI
    have hp := (List.mem_filter.mp hp).1
    have hd := dots_at hp
    refine ⟨_, Y.bindN (setV_local ho rfl), ?_⟩
    apply Y.kIf
    · apply Y.tcall
      · apply Y.callF
        · decide
        · rfl
        · rfl
        · apply Y.evs1
          · apply Y.bin
            · exact Y.name rfl (by walk_at "lk")
            · exact Y.const rfl
            · exact hd.1
          · apply Y.evs1
            · exact Y.name rfl (by walk_at "lk")
            · exact Y.evs0
        · exact mat_F _ _ hp hq
      · rfl
    cases hb : isPre p q with
    | false =>
      refine Y.iF rfl ?_
      apply Y.kNilA
      apply Y.kNil
      exact hk _ ⟨ho, by walk_at "lk", by rw [led_off hb]; walk_at "lk", by rw [led_off hb]; exact hr⟩
    | true =>
      obtain ⟨hm, ⟨x, c, z, w, b, hD, hD1, f1, f2, f3, f4, f5, f6⟩⟩ := flip_at hp hq hr hb
      refine Y.iT rfl ?_
      apply Y.kAsg
      · rfl
      · apply Y.callB1
        · rfl
        · rfl
        · rfl
        · rfl
        · exact Y.brwP ho (Y.name rfl (by walk_at "lk"))
        · exact hd.2
      · exact setV_local ho rfl
      apply Y.kAsg
      · rfl
      · apply Y.bin
        · apply Y.bin
          · apply Y.slice
            · exact Y.name rfl (by walk_at "lk")
            · exact Y.part0
            · exact Y.part1 (Y.name rfl (by walk_at "lk")) hD
            · exact Y.part0
            · exact f1
          · apply Y.ifP
            · apply Y.tcmp
              · apply Y.idx
                · rfl
                · exact Y.brwP ho (Y.name rfl (by walk_at "lk"))
                · exact Y.name rfl (by walk_at "lk")
                · exact f2
              · exact Y.brwP ho (Y.const rfl)
              · exact f3
            · exact Y.const rfl
            · exact Y.const rfl
          · exact f4
        · apply Y.slice
          · exact Y.name rfl (by walk_at "lk")
          · refine Y.part1 ?_ hD1
            apply Y.bin
            · exact Y.name rfl (by walk_at "lk")
            · exact Y.const rfl
            · rfl
          · exact Y.part0
          · exact Y.part0
          · exact f5
        · exact f6
      · exact setV_local ho rfl
      apply Y.kNilA
      apply Y.kNil
      exact hk _ ⟨ho, by walk_at "lk", by walk_at "lk", hm⟩
  · obtain ⟨ho, h1, h2, hr⟩ := hI
    apply Y.afterA
    apply Y.kRet
    · exact Y.ownN ho
    · exact Y.name rfl h2
    · rw [led_act T hq]; rfl
end Mine
end

section
set_option maxHeartbeats 4000000
open PySem PySem.Calls PyProof.Rows PySem.Spec PySem.Builtin PySem.Builtin.Str PySem.W
namespace Mine
local macro_rules | `(tactic| walk_at "lk") => `(tactic| first | with_reducible assumption | with_reducible exact Y.lkS | (refine (Y.lkN rfl).trans ?_; walk_at "lk"))

namespace Y
section
variable {G : GCtx} {n : Nat} {sc : Scope} {ε ε₁ ε₂ ε' : LEnv} {pos px : Pos} {p q r : PV} {ps qs : List PV} {b : Bool} {β : Type}
theorem asgW {x y : Str} {py tp vp : Pos} {k kk : Nat} {e₁ e₂ : Expr} {l : List PV} (hxy : (x == y) = false) (hok : swapOk e₁ e₂ = true) (ho : (G.owns.contains x && ownForm e₁) = true) (hl : ownE (evN G n) sc ε e₁ = some l) (hq : (evN G n).E sc ε e₂ = some q) (h1 : setV sc ε y q = some ε₁) (h2 : putOwn sc ε₁ x l = some ε₂) :
    stmtV G (evN G n) sc ε (.Assign [.Tuple [.Name x px, .Name y py] k tp] (.Tuple [e₁, e₂] kk vp) pos) = some (ε₂, .next) := by
  show (if x == y then none else assignP G (evN G n) sc ε x y e₁ e₂).map _ = _
  unfold assignP
  rw [hxy, if_neg Bool.false_ne_true, hok, ho]
  show ((ownE (evN G n) sc ε e₁).bind fun l => ((evN G n).E sc ε e₂).bind fun q => (setV sc ε y q).bind fun ε' => putOwn sc ε' x l).map _ = _
  rw [hl, Option.bind_some, hq, Option.bind_some, h1, Option.bind_some, h2]; rfl
theorem kApp {x m : Str} {ap cp : Pos} {a : Expr} {l : List PV} {rest : List Stmt} {k : LEnv × Fl → Option β} {R : Option β} (ho : ε.own = some (x, l)) (hm : (mkOf m == some .append && ap.endLine == cp.line) = true) (hl : l.length ≤ lim) (ha : (evN G n).E sc ε a = some p) (hk : K G n sc { ε with own := some (x, l ++ [p]) } rest k = R) :
    K G (n + 1) sc ε (.Expr (.Call (.Attribute (.Name x px) m ap) [a] [] cp) pos :: rest) k = R := by
  refine kNext ?_ hk
  show (appS (evN G n) sc ε (.Call (.Attribute (.Name x px) m ap) [a] [] cp)).map _ = _
  have e : appS (evN G n) sc ε (.Call (.Attribute (.Name x px) m ap) [a] [] cp) = some { ε with own := some (x, l ++ [p]) } := by
    refine (if_pos hm).trans ?_
    rw [ho, Option.bind_some]
    refine (if_pos ?_).trans ?_
    · show ((x == x) && decide (l.length ≤ lim)) = true
      rw [beq_self_eq_true, decide_eq_true hl]; rfl
    · show ((evN G n).E sc ε a).map _ = _
      rw [ha]; rfl
  rw [e]; rfl
theorem kRetO {x : Str} {l : List PV} {rest : List Stmt} {k : LEnv × Fl → Option β} {R : Option β} (ho : ε.own = some (x, l)) (h : k (thaw ε, .ret (.lst l)) = R) : K G (n + 1) sc ε (.Return (some (.Name x px)) pos :: rest) k = R := by
  have e : stmtV G (evN G n) sc ε (.Return (some (.Name x px)) pos) = some (thaw ε, .ret (.lst l)) := by
    show retS (evN G n) sc ε (.Name x px) = _
    unfold retS
    rw [ho]
    exact if_pos (beq_self_eq_true x)
  rw [seq_eq, e]; exact h
noncomputable def runs {σ : Type} (test : σ → Bool) (step : σ → σ) : Nat → σ → Option σ
  | 0, s => if test s then none else some s
  | j + 1, s => if test s then runs test step j (step s) else some s
theorem wInv {σ : Type} (I : Nat → σ → LEnv → Prop) (test : σ → Bool) (step : σ → σ) {t : Expr} {body : List Stmt} {s' : σ} {k : LEnv × Fl → Option β} {R : Option β} (hT : ∀ j s ε, I j s ε → (evN G n).T sc ε t = some (test s))
    (turn : ∀ j s ε, I (j + 1) s ε → test s = true → ∀ (k' : LEnv × Fl → Option β), (∀ ε₂, I j (step s) ε₂ → k' (ε₂, .next) = R) → K G n sc ε body k' = R) (h : ∀ j ε', I j s' ε' → k (ε', .next) = R) :
    ∀ (j : Nat) (s : σ) (ε : LEnv), I j s ε → runs test step j s = some s' → (whileL (evN G n) sc t body (j + 1) ε).bind k = R
  | 0, s, ε, h0, hr => by
    refine wStep (hT 0 s ε h0) ?_
    unfold runs at hr
    cases hb : test s with
    | true => rw [hb] at hr; exact no_some hr
    | false =>
      rw [hb] at hr
      obtain rfl := Option.some.inj hr
      exact h 0 ε h0
  | j + 1, s, ε, h0, hr => by
    refine wStep (hT (j + 1) s ε h0) ?_
    unfold runs at hr
    cases hb : test s with
    | true =>
      rw [hb] at hr
      exact turn j s ε h0 hb _ fun ε₂ hI => wInv I test step hT turn h j (step s) ε₂ hI hr
    | false =>
      rw [hb] at hr
      obtain rfl := Option.some.inj hr
      exact h _ ε h0
end
end Y

theorem pth_inj {p q : Way} (h : pth p = pth q) : p = q := by
  have h1 : (p.reverse.map fun b => if b then 98 else 97).toArray = (q.reverse.map fun b => if b then 98 else 97).toArray := congrArg Str.cps h
  have h2 : (p.reverse.map fun b => if b then 98 else 97) = (q.reverse.map fun b => if b then 98 else 97) := by
    have := congrArg Array.toList h1
    simpa using this
  have h3 : p.reverse = q.reverse := by
    generalize p.reverse = a at h2
    generalize q.reverse = c at h2
    induction a generalizing c with
    | nil => cases c with
      | nil => rfl
      | cons => cases h2
    | cons x a ih => cases c with
      | nil => cases h2
      | cons y c =>
        rw [List.map_cons, List.map_cons] at h2
        injection h2 with e1 e2
        rw [ih c e2]
        cases x <;> cases y <;> first | rfl | (exact absurd e1 (by decide))
  rw [← List.reverse_reverse p, h3, List.reverse_reverse]
theorem pth_beq (p q : Way) : (pth p == pth q) = (p == q) := by
  by_cases h : p = q
  · rw [h, beq_self_eq_true, beq_self_eq_true]
  · rw [beq_eq_false_iff_ne.mpr h, beq_eq_false_iff_ne.mpr fun z => h (pth_inj z)]
theorem any_pth (l : List Way) (p : Way) : (l.map pth).any (· == pth p) = elemW l p := by
  unfold elemW
  rw [List.any_map]
  congr 1
  funext q
  exact pth_beq q p
theorem strs_pv : ∀ l : List Way, asStrs (l.map pv) = some (l.map pth)
  | [] => rfl
  | p :: l => by
    show (asStrs (l.map pv)).map (pth p :: ·) = _
    rw [strs_pv l]; rfl
theorem in_pv (l : List Way) (p : Way) : inV (pv p) (.lst (l.map pv)) = some (elemW l p) := by
  show (asStrs (l.map pv)).map (fun ys => ys.any (· == pth p)) = _
  rw [strs_pv]
  exact congrArg some (any_pth l p)
theorem notIn_pv (l : List Way) (p : Way) : cmpV .NotIn (pv p) (.lst (l.map pv)) = some (!elemW l p) := by
  show (inV (pv p) (.lst (l.map pv))).map (!·) = _
  rw [in_pv]; rfl
theorem pv_door {q : Way} (hq : q ∈ doors8) : pv q = .str (pth q) false := by
  unfold doors8 at hq
  simp only [List.mem_cons, List.not_mem_nil, or_false] at hq
  rcases hq with rfl | rfl | rfl | rfl | rfl | rfl | rfl | rfl <;> rfl
theorem all3 : ∀ x y z : Bool, elemW doors8 [x, y, z] = true := by decide
theorem act_door (T : Way → Bool) {q : Way} (hq : q ∈ doors8) : act T q ∈ doors8 := by
  unfold doors8 at hq
  simp only [List.mem_cons, List.not_mem_nil, or_false] at hq
  rcases hq with rfl | rfl | rfl | rfl | rfl | rfl | rfl | rfl <;> exact elem_mem (all3 _ _ _)

noncomputable def tblW (f : Way → Way) : List (Str × Str) := doors8.map fun q => (pth q, pth (f q))
noncomputable def upW (q : Way) : Str := upS (pth q)
theorem up_door {q : Way} (hq : q ∈ doors8) : methV (pv q) .upper [] = some (.str (upW q) false) := by
  unfold doors8 at hq
  simp only [List.mem_cons, List.not_mem_nil, or_false] at hq
  rcases hq with rfl | rfl | rfl | rfl | rfl | rfl | rfl | rfl <;> kernel_rfl
theorem get_door (f : Way → Way) {q : Way} (hq : q ∈ doors8) : methV (.hdr (tblW f)) .get [.str (upW q) false] = some (.str (pth (f q)) false) := by
  unfold doors8 at hq
  simp only [List.mem_cons, List.not_mem_nil, or_false] at hq
  rcases hq with rfl | rfl | rfl | rfl | rfl | rfl | rfl | rfl <;> kernel_rfl

theorem runs_end (h : Way → Way) : ∀ (k : Nat) (ring : List Way) (met : Way), ringEnd h k ring met = true → ∀ j, k ≤ j → ∃ m, Y.runs (fun s : List Way × Way => !elemW s.1 s.2) (fun s => (s.1 ++ [s.2], h s.2)) j (ring, met) = some (ringW h k ring met, m)
  | 0, ring, met, he, j, _ => by
    have he : elemW ring met = true := he
    refine ⟨met, ?_⟩
    cases j <;> (unfold Y.runs; dsimp only; rw [he]; rfl)
  | k + 1, ring, met, he, j, hj => by
    have he : (elemW ring met || ringEnd h k (ring ++ [met]) (h met)) = true := he
    unfold ringW
    cases hm : elemW ring met with
    | true =>
      refine ⟨met, ?_⟩
      cases j <;> (unfold Y.runs; dsimp only; rw [hm]; rfl)
    | false =>
      rw [hm] at he
      cases j with
      | zero => exact absurd hj (Nat.not_succ_le_zero _)
      | succ j =>
        obtain ⟨m, hm'⟩ := runs_end h k (ring ++ [met]) (h met) he j (Nat.le_of_succ_le_succ hj)
        refine ⟨m, ?_⟩
        unfold Y.runs
        dsimp only
        rw [hm]
        exact hm'

theorem ring_F (k : Nat) {f g h : Way → Way} (hf : ∀ q ∈ doors8, f q ∈ doors8) (hg : ∀ q ∈ doors8, g (f q) = h q) (hh : ∀ q ∈ doors8, h q ∈ doors8) {q : Way} (hq : q ∈ doors8) (he : ringEnd h 8 [] q = true) :
    (evN G2 (k + 40)).F "_law_ring" [.hdr (tblW f), .hdr (tblW g), pv q] = some (.lst ((ringW h 8 [] q).map pv)) := by
  obtain ⟨m, hm⟩ := runs_end h 8 [] q he 99 (by decide)
  refine Y.fn' (vs := [("first", .hdr (tblW f)), ("second", .hdr (tblW g)), ("door", pv q)]) rfl rfl rfl ?_
  dsimp only
  refine Y.kNext (Y.asgW rfl rfl rfl rfl (Y.name rfl rfl) (Y.setL rfl rfl (Y.updF rfl (Y.updF rfl (Y.updF rfl Y.updN)))) (Y.putO rfl (Y.filT rfl (Y.filT rfl (Y.filT rfl (Y.filT rfl Y.filN)))))) ?_
  apply Y.kWhile
  refine Y.wInv (fun j (s : List Way × Way) ε => ε.own = some (("ring" : Str), s.1.map pv) ∧ ε.vars.lookup ("met" : Str) = some (pv s.2) ∧ ε.vars.lookup ("first" : Str) = some (.hdr (tblW f)) ∧ ε.vars.lookup ("second" : Str) = some (.hdr (tblW g)) ∧ s.2 ∈ doors8 ∧ s.1.length + j ≤ 99)
    (fun s => !elemW s.1 s.2) (fun s => (s.1 ++ [s.2], h s.2)) (fun j s ε hI => ?_) (fun j s ε hI ht k' hk => ?_) (fun j ε' hI => ?_) 99 ([], q) _ ⟨rfl, rfl, rfl, rfl, hq, Nat.le_refl _⟩ hm
  · obtain ⟨ho, h1, h2, h3, hs, hl⟩ := hI
    apply Y.tcmp
    · exact Y.name rfl h1
    · exact Y.brwO ho
    · exact notIn_pv _ _
  · obtain ⟨ho, h1, h2, h3, hs, hl⟩ := hI
    apply Y.kApp ho
    · rfl
    · rw [List.length_map]; exact Nat.le_trans (Nat.le_trans (Nat.le_add_right _ _) hl) (by decide)
    · exact Y.name rfl h1
    refine Y.kNext (ε₁ := { vars := upd "met" (pv (h s.2)) ε.vars, own := some (("ring" : Str), (s.1 ++ [s.2]).map pv) }) ?_ ?_
    · apply Y.asg
      · rfl
      · apply Y.callM
        · decide
        · rfl
        · exact Y.name rfl h3
        · rfl
        · rfl
        · apply Y.evs1
          · apply Y.callM
            · decide
            · rfl
            · apply Y.callM
              · decide
              · rfl
              · exact Y.name rfl h2
              · rfl
              · rfl
              · apply Y.evs1
                · apply Y.callM
                  · decide
                  · rfl
                  · exact Y.name rfl h1
                  · rfl
                  · rfl
                  · exact Y.evs0
                  · exact up_door hs
                · exact Y.evs0
              · exact get_door f hs
            · rfl
            · rfl
            · exact Y.evs0
            · rw [← pv_door (hf _ hs)]; exact up_door (hf _ hs)
          · exact Y.evs0
        · exact get_door g (hf _ hs)
      · rw [hg _ hs, ← pv_door (hh _ hs), List.map_append]
        exact setV_mk (sc := _) rfl (.inl rfl)
    apply Y.kNil
    refine hk _ ⟨rfl, by walk_at "lk", by walk_at "lk", by walk_at "lk", hh _ hs, ?_⟩
    rw [List.length_append, List.length_singleton, Nat.add_assoc, Nat.add_comm 1 j]; exact hl
  · obtain ⟨ho, -⟩ := hI
    apply Y.afterA
    apply Y.kRetO ho
    rfl
end Mine
end

section
set_option maxHeartbeats 4000000
open PySem PySem.Calls PyProof.Rows PySem.Spec PySem.Builtin PySem.Builtin.Str PySem.W
namespace Mine
namespace Y
section
variable {G : GCtx} {n : Nat} {sc : Scope} {ε ε₁ ε₂ ε' : LEnv} {pos px : Pos} {p q r : PV} {ps qs : List PV} {b : Bool} {β : Type}
theorem lkC {s : Scope} {x : Str} (h : (s.names.lookup x == some .free) = true) : (compEnv s ε).vars.lookup x = ε.vars.lookup x := (lookup_filter (fun y => s.names.lookup y == some .free) x ε.vars).trans (if_pos h)
theorem compFilter {ev : Ev} {tgt elt c : Expr} {α : Type} (f g : α → PV) (t : α → Bool) : ∀ (l : List α), (∀ a ∈ l, ∃ ε₁, bindT sc ε tgt (f a) = some ε₁ ∧ ev.T sc ε₁ c = some (t a) ∧ ev.E sc ε₁ elt = some (g a)) → compE ev sc ε tgt [c] elt (l.map f) = some ((l.filter t).map g)
  | [], _ => rfl
  | a :: l, h => by
    obtain ⟨ε₁, h1, h2, h3⟩ := h a (List.mem_cons_self ..)
    have ih := compFilter f g t l fun x hx => h x (List.mem_cons_of_mem _ hx)
    rw [List.filter_cons]
    cases hb : t a with
    | true =>
      rw [hb] at h2
      rw [if_pos rfl]
      exact compT h1 h2 rfl h3 ih
    | false =>
      rw [hb] at h2
      rw [if_neg Bool.false_ne_true]
      exact compF h1 h2 rfl ih
theorem scomp {elt tgt iter : Expr} {s : Scope} {ss : List Str} (hm : G.more = true) (hc : compOk s sc tgt = true) (hi : iterV G (evN G n) sc ε tgt iter = some ps) (hl : ps.length ≤ 64) (h : compE (evN G n) (relab s sc) (compEnv s ε) tgt [] elt ps = some qs) (hs : asStrs qs = some ss) :
    (evN G (n + 1)).E sc ε (.SetComp elt [⟨tgt, iter, [], 0⟩] s pos) = some (.sset (dedup [] ss)) := by
  show setCompV G (evN G n) sc ε elt tgt iter s = _
  unfold setCompV
  rw [hm, hc, hi]
  refine (if_pos rfl).trans ?_
  rw [Option.bind_some]
  refine (if_pos (decide_eq_true hl)).trans ?_
  rw [h, Option.bind_some, hs]; rfl
noncomputable def foldO {σ α : Type} (step : σ → α → Option σ) : List α → σ → Option σ
  | [], s => some s
  | a :: l, s => (step s a).bind fun s => foldO step l s
theorem fExit {σ α : Type} (I : Nat → σ → LEnv → Prop) {f : α → PV} (step : σ → α → Option σ) (out : PV) {tgt : Expr} {body : List Stmt} {k : LEnv × Fl → Option β} {R : Option β} : ∀ (l : List α) {s : σ} {ε : LEnv}, I l.length s ε →
    (∀ a ∈ l, ∀ j s ε, I (j + 1) s ε → ∀ (k' : LEnv × Fl → Option β), (∀ s', step s a = some s' → ∀ ε₂, I j s' ε₂ → k' (ε₂, .next) = R) → (step s a = none → ∀ ε₂, k' (ε₂, .ret out) = R) → ∃ ε₁, bindT sc ε tgt (f a) = some ε₁ ∧ K G n sc ε₁ body k' = R) →
    (∀ s', foldO step l s = some s' → ∀ ε', I 0 s' ε' → k (ε', .next) = R) → (foldO step l s = none → ∀ ε', k (ε', .ret out) = R) → (forL (evN G n) sc tgt body (l.map f) ε).bind k = R
  | [], s, ε, h0, _, h, _ => h s rfl ε h0
  | a :: l, s, ε, h0, turn, h, h' => by
    obtain ⟨ε₁, h1, h2⟩ := turn a (List.mem_cons_self ..) l.length s ε h0 (aftL (fun ε' => forL (evN G n) sc tgt body (l.map f) ε') k)
      (fun s' hs ε₂ hI => fExit I step out l hI (fun a ha => turn a (List.mem_cons_of_mem _ ha)) (fun s'' hs'' => h s'' (by unfold foldO; rw [hs]; exact hs'')) (fun hs'' => h' (by unfold foldO; rw [hs]; exact hs'')))
      (fun hs ε₂ => h' (by unfold foldO; rw [hs]; rfl) ε₂)
    exact fStep h1 h2
end
end Y
local macro_rules | `(tactic| walk_at "lk") => `(tactic| first | with_reducible assumption | with_reducible exact Y.lkS | (refine (Y.lkN rfl).trans ?_; walk_at "lk") | (refine (Y.lkC rfl).trans ?_; walk_at "lk") | rfl)

theorem dedup_pth : ∀ (l acc : List Way), dedup (acc.map pth) (l.map pth) = (dedupW acc l).map pth
  | [], _ => rfl
  | x :: r, acc => by
    show (if (acc.map pth).any (· == pth x) then dedup (acc.map pth) (r.map pth) else dedup (acc.map pth ++ [pth x]) (r.map pth)) = (if elemW acc x then dedupW acc r else dedupW (acc ++ [x]) r).map pth
    rw [any_pth]
    cases elemW acc x with
    | true => rw [if_pos rfl, if_pos rfl, dedup_pth r acc]
    | false => rw [if_neg Bool.false_ne_true, if_neg Bool.false_ne_true, ← dedup_pth r (acc ++ [x]), List.map_append]; rfl
theorem dedup_len : ∀ (l acc : List Way), (dedupW acc l).length ≤ acc.length + l.length
  | [], _ => Nat.le_refl _
  | x :: r, acc => by
    show (if elemW acc x then dedupW acc r else dedupW (acc ++ [x]) r).length ≤ acc.length + (r.length + 1)
    cases elemW acc x with
    | true => rw [if_pos rfl]; exact Nat.le_trans (dedup_len r acc) (Nat.add_le_add_left (Nat.le_succ _) _)
    | false =>
      rw [if_neg Bool.false_ne_true]
      refine Nat.le_trans (dedup_len r (acc ++ [x])) (Nat.le_of_eq ?_)
      rw [List.length_append, List.length_singleton, Nat.add_assoc, Nat.add_comm 1]
theorem front_len (k : Nat) (l : List Way) : (front k l).length ≤ l.length := by
  have := dedup_len (l.map (·.drop k)) []
  rw [List.length_map, List.length_nil, Nat.zero_add] at this
  exact this
theorem ring_len (h : Way → Way) : ∀ (k : Nat) (ring : List Way) (met : Way), (ringW h k ring met).length ≤ ring.length + k
  | 0, _, _ => Nat.le_refl _
  | k + 1, ring, met => by
    show (if elemW ring met then ring else ringW h k (ring ++ [met]) (h met)).length ≤ _
    cases elemW ring met with
    | true => rw [if_pos rfl]; exact Nat.le_add_right _ _
    | false =>
      rw [if_neg Bool.false_ne_true]
      refine Nat.le_trans (ring_len h k _ _) (Nat.le_of_eq ?_)
      rw [List.length_append, List.length_singleton, Nat.add_assoc, Nat.add_comm 1]
theorem ring_in (h : Way → Way) (hh : ∀ q ∈ doors8, h q ∈ doors8) : ∀ (k : Nat) (ring : List Way) (met : Way), (∀ q ∈ ring, q ∈ doors8) → met ∈ doors8 → ∀ q ∈ ringW h k ring met, q ∈ doors8
  | 0, _, _, h0, _ => h0
  | k + 1, ring, met, h0, hm => by
    show ∀ q ∈ (if elemW ring met then ring else ringW h k (ring ++ [met]) (h met)), q ∈ doors8
    cases elemW ring met with
    | true => rw [if_pos rfl]; exact h0
    | false =>
      rw [if_neg Bool.false_ne_true]
      refine ring_in h hh k _ _ (fun q hq => ?_) (hh _ hm)
      rcases List.mem_append.mp hq with hq | hq
      · exact h0 q hq
      · rw [List.mem_singleton.mp hq]; exact hm

noncomputable def cutP (k : Nat) (q : Way) : PV := .str (pth (q.drop k)) false
theorem t_cut : ((List.range 3).all fun d => doors8.all fun q => isPV (sliceV (pv q) none (some (d : Nat)) none) (cutP (3 - d) q)) = true := by kernel_rfl
theorem cut_at {d : Nat} (hd : d ∈ [0, 1, 2]) {q : Way} (hq : q ∈ doors8) : sliceV (pv q) none (some (d : Nat)) none = some (cutP (3 - d) q) := isPV_is (List.all_eq_true.mp (List.all_eq_true.mp t_cut d hd) q hq)
theorem cut_strs (k : Nat) : ∀ l : List Way, asStrs (l.map (cutP k)) = some ((l.map (·.drop k)).map pth)
  | [] => rfl
  | q :: l => by
    show (asStrs (l.map (cutP k))).map (pth (q.drop k) :: ·) = _
    rw [cut_strs k l]; rfl
theorem front_pv (k : Nat) (l : List Way) : dedup [] ((l.map (·.drop k)).map pth) = (front k l).map pth := dedup_pth _ []
theorem in_set (l : List Way) (p : Way) : cmpV .In (pv p) (.sset (l.map pth)) = some (elemW l p) := congrArg some (any_pth l p)
theorem fil_len (T : Way → Bool) (t : Way → Bool) : (((posts7.filter T).filter t).map pv).length ≤ 7 := by
  rw [List.length_map]
  exact Nat.le_trans (List.length_filter_le _ _) (List.length_filter_le _ posts7)
theorem nat_eq (a b : Nat) : ((a : Int) == (b : Int)) = (a == b) := by
  by_cases h : a = b
  · rw [h, beq_self_eq_true, beq_self_eq_true]
  · have e : ((a : Int) == (b : Int)) = false := beq_eq_false_iff_ne.mpr fun z => h (Int.ofNat.inj z)
    rw [e, beq_eq_false_iff_ne.mpr h]
theorem nat_mod2 (a : Nat) : binV .Mod (.int (a : Nat)) (.int 2) = some (.int ((a % 2 : Nat) : Int)) := by
  show some (PV.int ((a : Int).fmod 2)) = _
  rw [Int.fmod_eq_emod_of_nonneg _ (by decide)]; rfl
theorem nat_small {a : Nat} (h : a ≤ 100) : smallI (a : Nat) = true := by
  unfold smallI
  exact decide_eq_true (Nat.lt_of_le_of_lt h (by decide))
theorem nat_mul {a b : Nat} (h : a ≤ 100) (h' : b ≤ 100) : binV .Mult (.int (a : Nat)) (.int (b : Nat)) = some (.int ((a * b : Nat) : Int)) := by
  show (if smallI (a : Nat) && smallI (b : Nat) then some (PV.int ((a : Int) * (b : Int))) else none) = _
  rw [nat_small h, nat_small h']; rfl

noncomputable def stepG (T1 T2 : Way → Bool) (ring btw : List Way) (size d : Nat) : Option Nat := if (front (3 - d) ring).length == size then some (size * (1 + (cntW T1 (front (3 - d) ring) + cntW T2 (front (3 - d) btw)) % 2)) else none
theorem grow_fold (T1 T2 : Way → Bool) (ring btw : List Way) : growW T1 T2 ring btw 3 1 = (match Y.foldO (stepG T1 T2 ring btw) [0, 1, 2] 1 with | some s => ring.length == s | none => false) := by
  have st : ∀ (k d size : Nat), 3 - d = k + 1 → ∀ l, Y.foldO (stepG T1 T2 ring btw) (d :: l) size = if (front (k + 1) ring).length == size then Y.foldO (stepG T1 T2 ring btw) l (size * (1 + (cntW T1 (front (k + 1) ring) + cntW T2 (front (k + 1) btw)) % 2)) else none := fun k d size e l => by
    show (stepG T1 T2 ring btw size d).bind _ = _
    unfold stepG
    rw [e]
    cases (front (k + 1) ring).length == size <;> rfl
  have gs : ∀ k size, growW T1 T2 ring btw (k + 1) size = if (front (k + 1) ring).length == size then growW T1 T2 ring btw k (size * (1 + (cntW T1 (front (k + 1) ring) + cntW T2 (front (k + 1) btw)) % 2)) else false := fun _ _ => rfl
  rw [st 2 0 1 rfl, gs 2 1]
  cases (front (2 + 1) ring).length == 1 with
  | false => rfl
  | true =>
    rw [if_pos rfl, if_pos rfl, st 1 1 _ rfl, gs 1]
    generalize 1 * (1 + (cntW T1 (front (2 + 1) ring) + cntW T2 (front (2 + 1) btw)) % 2) = a
    cases (front (1 + 1) ring).length == a with
    | false => rfl
    | true =>
      rw [if_pos rfl, if_pos rfl, st 0 2 _ rfl, gs 0]
      generalize a * (1 + (cntW T1 (front (1 + 1) ring) + cntW T2 (front (1 + 1) btw)) % 2) = c
      cases (front (0 + 1) ring).length == c with
      | false => rfl
      | true => rfl

theorem grown_F (k : Nat) {T1 T2 : Way → Bool} {ring : List Way} (hr : ∀ q ∈ ring, q ∈ doors8) (hl : ring.length ≤ 8) :
    (evN G2 (k + 40)).F "_law_grown" [.lst ((posts7.filter T1).map pv), .lst ((posts7.filter T2).map pv), .hdr (tblW (act T1)), .lst (ring.map pv)] = some (.bool (growW T1 T2 ring (ring.map (act T1)) 3 1)) := by
  rw [grow_fold]
  refine Y.fn' (vs := [("turned", .lst ((posts7.filter T1).map pv)), ("again", .lst ((posts7.filter T2).map pv)), ("first", .hdr (tblW (act T1))), ("ring", .lst (ring.map pv))]) rfl rfl rfl ?_
  dsimp only
  apply Y.kAsg (p := .lst ((ring.map (act T1)).map pv))
  · rfl
  · rw [List.map_map]
    apply Y.lcomp
    · rfl
    · apply Y.iterP
      · rfl
      · exact Y.name rfl rfl
      · rfl
    · rw [List.length_map]; exact Nat.le_trans hl (by decide)
    · refine Y.compMap pv (pv ∘ act T1) ring fun q hq => ⟨_, Y.bindN (setV_local rfl rfl), ?_⟩
      apply Y.callM
      · decide
      · rfl
      · exact Y.name rfl (by walk_at "lk")
      · rfl
      · rfl
      · apply Y.evs1
        · apply Y.callM
          · decide
          · rfl
          · exact Y.name rfl (by walk_at "lk")
          · rfl
          · rfl
          · exact Y.evs0
          · exact up_door (hr q hq)
        · exact Y.evs0
      · rw [Function.comp_apply, pv_door (act_door T1 (hr q hq))]
        exact get_door _ (hr q hq)
  · exact Y.setL rfl rfl (Y.updF rfl (Y.updF rfl (Y.updF rfl (Y.updF rfl Y.updN))))
  apply Y.kAsg
  · rfl
  · exact Y.const rfl
  · exact Y.setL rfl rfl (Y.updF rfl (Y.updF rfl (Y.updF rfl (Y.updF rfl (Y.updF rfl Y.updN)))))
  apply Y.kForP (ps := ([0, 1, 2] : List Nat).map fun d => PV.int (d : Nat))
  · rfl
  · apply Y.iterN
    · rfl
    · rfl
    · apply Y.evs1
      · exact Y.const rfl
      · exact Y.evs0
    · rfl
  have hb : ∀ q ∈ ring.map (act T1), q ∈ doors8 := fun q hq => by
    obtain ⟨q', hq', rfl⟩ := List.mem_map.mp hq
    exact act_door T1 (hr q' hq')
  have hbl : (ring.map (act T1)).length ≤ 8 := by rw [List.length_map]; exact hl
  generalize ring.map (act T1) = btw at hb hbl
  refine Y.fExit (fun _ (size : Nat) ε => ε.own = none ∧ ε.vars.lookup ("turned" : Str) = some (.lst ((posts7.filter T1).map pv)) ∧ ε.vars.lookup ("again" : Str) = some (.lst ((posts7.filter T2).map pv)) ∧ ε.vars.lookup ("ring" : Str) = some (.lst (ring.map pv)) ∧
      ε.vars.lookup ("between" : Str) = some (.lst (btw.map pv)) ∧ ε.vars.lookup ("size" : Str) = some (.int (size : Nat))) (stepG T1 T2 ring btw) (.bool false) _ (s := 1) ⟨rfl, rfl, rfl, rfl, rfl, rfl⟩ (fun d hd _ size ε hI k' hk hk' => ?_) (fun s' hs ε' hI => ?_) (fun hs ε' => ?_)
  · obtain ⟨ho, h1, h2, h3, h4, h5⟩ := hI
    refine ⟨_, Y.bindN (setV_mk (by unfold isOwn; rw [ho]) (.inr rfl)), ?_⟩
    apply Y.kAsg (p := .sset ((front (3 - d) ring).map pth))
    · rfl
    · rw [← front_pv (3 - d) ring]
      apply Y.scomp
      · rfl
      · rfl
      · apply Y.iterP
        · rfl
        · exact Y.name rfl (by walk_at "lk")
        · rfl
      · rw [List.length_map]; exact Nat.le_trans hl (by decide)
      · refine Y.compMap pv (cutP (3 - d)) ring fun q hq => ⟨_, Y.bindN (setV_local rfl rfl), ?_⟩
        apply Y.slice
        · exact Y.name rfl (by walk_at "lk")
        · exact Y.part0
        · refine Y.part1 (Y.name rfl (by walk_at "lk")) (nat_small (a := d) ?_)
          simp only [List.mem_cons, List.not_mem_nil, or_false] at hd
          rcases hd with rfl | rfl | rfl <;> decide
        · exact Y.part0
        · exact cut_at hd (hr q hq)
      · exact cut_strs _ _
    · exact setV_mk (by unfold isOwn; rw [ho]) (.inr rfl)
    apply Y.kAsg (p := .sset ((front (3 - d) btw).map pth))
    · rfl
    · rw [← front_pv (3 - d) btw]
      apply Y.scomp
      · rfl
      · rfl
      · apply Y.iterP
        · rfl
        · exact Y.name rfl (by walk_at "lk")
        · rfl
      · rw [List.length_map]; exact Nat.le_trans hbl (by decide)
      · refine Y.compMap pv (cutP (3 - d)) btw fun q hq => ⟨_, Y.bindN (setV_local rfl rfl), ?_⟩
        apply Y.slice
        · exact Y.name rfl (by walk_at "lk")
        · exact Y.part0
        · refine Y.part1 (Y.name rfl (by walk_at "lk")) (nat_small (a := d) ?_)
          simp only [List.mem_cons, List.not_mem_nil, or_false] at hd
          rcases hd with rfl | rfl | rfl <;> decide
        · exact Y.part0
        · exact cut_at hd (hb q hq)
      · exact cut_strs _ _
    · exact setV_mk (by unfold isOwn; rw [ho]) (.inr rfl)
    apply Y.kIf (b := !((front (3 - d) ring).length == size))
    · apply Y.tcmp
      · apply Y.callB1
        · rfl
        · rfl
        · rfl
        · rfl
        · exact Y.brwP ho (Y.name rfl (by walk_at "lk"))
        · rfl
      · exact Y.brwP ho (Y.name rfl (by walk_at "lk"))
      · show some (!((((front (3 - d) ring).map pth).length : Int) == (size : Int))) = _
        rw [List.length_map, nat_eq]
    cases hb2 : (front (3 - d) ring).length == size with
    | false =>
      have hn : stepG T1 T2 ring btw size d = none := by unfold stepG; rw [hb2]; rfl
      refine Y.iT rfl ?_
      apply Y.kRet
      · exact Y.ownN ho
      · exact Y.const rfl
      · exact hk' hn _
    | true =>
      have hsz : size ≤ 100 := by
        rw [← beq_iff_eq.mp hb2]
        exact Nat.le_trans (front_len _ _) (Nat.le_trans hl (by decide))
      have hs : stepG T1 T2 ring btw size d = some (size * (1 + (cntW T1 (front (3 - d) ring) + cntW T2 (front (3 - d) btw)) % 2)) := by unfold stepG; rw [hb2]; rfl
      refine Y.iF rfl ?_
      apply Y.kNilA
      apply Y.kAsg (p := .lst (((posts7.filter T1).filter (elemW (front (3 - d) ring))).map pv ++ ((posts7.filter T2).filter (elemW (front (3 - d) btw))).map pv))
      · rfl
      · apply Y.bin
        · apply Y.lcomp
          · rfl
          · apply Y.iterP
            · rfl
            · exact Y.name rfl (by walk_at "lk")
            · rfl
          · rw [List.length_map]; exact Nat.le_trans (List.length_filter_le _ posts7) (by decide)
          · refine Y.compFilter pv pv (elemW (front (3 - d) ring)) _ fun p hp => ⟨_, Y.bindN (setV_local rfl rfl), ?_, Y.name rfl (by walk_at "lk")⟩
            apply Y.tcmp
            · exact Y.name rfl (by walk_at "lk")
            · exact Y.brwP rfl (Y.name rfl (by walk_at "lk"))
            · exact in_set _ _
        · apply Y.lcomp
          · rfl
          · apply Y.iterP
            · rfl
            · exact Y.name rfl (by walk_at "lk")
            · rfl
          · rw [List.length_map]; exact Nat.le_trans (List.length_filter_le _ posts7) (by decide)
          · refine Y.compFilter pv pv (elemW (front (3 - d) btw)) _ fun p hp => ⟨_, Y.bindN (setV_local rfl rfl), ?_, Y.name rfl (by walk_at "lk")⟩
            apply Y.tcmp
            · exact Y.name rfl (by walk_at "lk")
            · exact Y.brwP rfl (Y.name rfl (by walk_at "lk"))
            · exact in_set _ _
        · refine if_pos ?_
          rw [List.length_append]
          exact Nat.le_trans (Nat.add_le_add (fil_len T1 _) (fil_len T2 _)) (by decide)
      · exact setV_mk (by unfold isOwn; rw [ho]) (.inl rfl)
      apply Y.kAsg
      · rfl
      · apply Y.bin
        · exact Y.name rfl (by walk_at "lk")
        · apply Y.bin
          · exact Y.const rfl
          · apply Y.bin
            · apply Y.callB1
              · rfl
              · rfl
              · rfl
              · rfl
              · exact Y.brwP ho (Y.name rfl (by walk_at "lk"))
              · rfl
            · exact Y.const rfl
            · exact nat_mod2 _
          · rfl
        · exact nat_mul hsz (b := 1 + _ % 2) (Nat.le_trans (Nat.add_le_add_left (Nat.le_of_lt (Nat.mod_lt _ (by decide))) 1) (by decide))
      · exact setV_mk (by unfold isOwn; rw [ho]) (.inl rfl)
      apply Y.kNil
      refine hk _ hs _ ⟨ho, by walk_at "lk", by walk_at "lk", by walk_at "lk", by walk_at "lk", ?_⟩
      refine Y.lkS.trans ?_
      rw [List.length_append, List.length_map, List.length_map]; rfl
  · obtain ⟨ho, h1, h2, h3, h4, h5⟩ := hI
    apply Y.afterA
    apply Y.kRet
    · exact Y.ownN ho
    · apply Y.cmp
      · apply Y.callB1
        · rfl
        · rfl
        · rfl
        · rfl
        · exact Y.brwP ho (Y.name rfl h3)
        · rfl
      · exact Y.brwP ho (Y.name rfl h5)
      · show some ((((ring.map pv).length : Int)) == (s' : Int)) = _
        rw [List.length_map, nat_eq]
    · rw [hs]; rfl
  · rw [hs]; rfl
end Mine
end

section
set_option maxHeartbeats 8000000
open PySem PySem.Calls PyProof.Rows PySem.Spec PySem.Builtin PySem.Builtin.Str PySem.W
namespace Mine
namespace Y
section
variable {G : GCtx} {n : Nat} {sc : Scope} {ε ε₁ ε₂ ε' : LEnv} {pos px : Pos} {p q r : PV} {ps qs : List PV} {b : Bool} {β : Type}
theorem and3 {a c d : Expr} {x y z : Bool} (h1 : (evN G n).E sc ε a = some (.bool x)) (h2 : (evN G n).E sc ε c = some (.bool y)) (h3 : (evN G n).E sc ε d = some (.bool z)) : (evN G (n + 1)).E sc ε (.BoolOp .And [a, c, d] pos) = some (.bool (x && y && z)) := by
  show (((evN G n).E sc ε a).bind fun p => (asBool p).bind fun b => if b then (((evN G n).E sc ε c).bind fun p => (asBool p).bind fun b => if b then ((evN G n).E sc ε d).bind asBool else some false) else some false).map PV.bool = _
  rw [h1, h2, h3]
  cases x <;> cases y <;> cases z <;> rfl
end
end Y
local macro_rules | `(tactic| walk_at "lk") => `(tactic| first | with_reducible assumption | with_reducible exact Y.lkS | (refine (Y.lkN rfl).trans ?_; walk_at "lk") | (refine (Y.lkC rfl).trans ?_; walk_at "lk") | rfl)
local macro_rules | `(tactic| walk_at "v") => `(tactic| first | with_reducible assumption | rfl)

-- slices of ints
theorem pick_map {α β : Type} (f : α → β) (l : List α) (i j k : Option Int) : pickL (l.map f) i j k = (pickL l i j k).map f := by
  unfold pickL
  rw [List.length_map, List.map_filterMap]
  congr 1
  funext x
  simp
theorem pick_len {α : Type} (l : List α) (i j k : Option Int) : (pickL l i j k).length ≤ l.length := by
  unfold pickL
  have h := slicePick_size_le ((List.replicate l.length Value.none).toArray) i j k
  have e : ((List.replicate l.length Value.none).toArray).size = l.length := by simp
  unfold slicePick at h
  rw [e, List.size_toArray] at h
  refine Nat.le_trans (Nat.le_of_eq ?_) h
  generalize (sliceRange (sliceBounds i j k l.length).1 (sliceBounds i j k l.length).2.1 (sliceBounds i j k l.length).2.2) = is
  induction is with
  | nil => rfl
  | cons i is ih =>
    rw [List.filterMap_cons, List.filterMap_cons]
    by_cases hi : i < l.length
    · have e1 : l[i]? = some l[i] := List.getElem?_eq_getElem hi
      have e2 : (List.replicate l.length Value.none).toArray[i]? = some Value.none := by simp [hi]
      rw [e1, e2]; simp [ih]
    · have e1 : l[i]? = none := List.getElem?_eq_none (Nat.not_lt.mp hi)
      have e2 : (List.replicate l.length Value.none).toArray[i]? = none := by simp [hi]
      rw [e1, e2]; exact ih
theorem ints_map {h : Int → Int} : ∀ l : List Int, asInts (l.map fun a => PV.int (h a)) = some (l.map h)
  | [] => rfl
  | a :: l => by
    show (asInts (l.map fun a => PV.int (h a))).map (h a :: ·) = _
    rw [ints_map l]; rfl
theorem small_mod (a : Int) : smallI (a.fmod 1000000) = true := by
  unfold smallI
  rw [Int.fmod_eq_emod_of_nonneg _ (by decide)]
  have h1 := Int.emod_nonneg a (b := 1000000) (by decide)
  have h2 := Int.emod_lt_of_pos a (b := 1000000) (by decide)
  apply decide_eq_true
  omega
theorem sum_pick (ms : List Int) (hl : ms.length ≤ 100) (i j k : Option Int) : ∃ t, builtinV .sum [.lst (pickL (ms.map fun a => PV.int (a.fmod 1000000)) i j k)] = some (.int t) := by
  rw [pick_map]
  refine ⟨((pickL ms i j k).map fun a => a.fmod 1000000).sum, ?_⟩
  show (asInts ((pickL ms i j k).map fun a => PV.int (a.fmod 1000000))).bind (fun ns => if ns.all smallI && decide (ns.length ≤ 1000) then some (PV.int ns.sum) else none) = _
  rw [ints_map, Option.bind_some, if_pos]
  have := pick_len ms i j k
  rw [Bool.and_eq_true, decide_eq_true_eq, List.length_map]
  refine ⟨List.all_eq_true.mpr fun x hx => ?_, Nat.le_trans this (Nat.le_trans hl (by decide))⟩
  obtain ⟨a, _, rfl⟩ := List.mem_map.mp hx
  exact small_mod a
theorem modN (i : Int) {d : Nat} (hd : 0 < d) : ∃ r : Nat, r < d ∧ i.fmod (d : Int) = (r : Int) := by
  have h0 : 0 < (d : Int) := Int.ofNat_lt.mpr hd
  have e := Int.fmod_eq_emod_of_nonneg i (b := (d : Int)) (Int.le_of_lt h0)
  have h1 := Int.emod_nonneg i (b := (d : Int)) (Int.ne_of_gt h0)
  have h2 := Int.emod_lt_of_pos i h0
  obtain ⟨r, hr⟩ := Int.eq_ofNat_of_zero_le h1
  rw [hr] at e h2
  exact ⟨r, Int.ofNat_lt.mp h2, e⟩

-- words
theorem ap_items {n : Nat} (h : n < 256) : itemsV (.bytes (apB n)) = some (([wA n, wB n] : List Nat).map fun c => .int (c : Nat)) := by
  have h1 : wA n < 256 := by unfold wA; omega
  have h2 : wB n < 256 := by unfold wB; omega
  show some [PV.int ((UInt8.ofNat (wA n)).toNat : Int), .int ((UInt8.ofNat (wB n)).toNat : Int)] = _
  rw [UInt8.toNat_ofNat_of_lt' h1, UInt8.toNat_ofNat_of_lt' h2]; rfl
theorem w_lt {n : Nat} (h : n < 256) : ∀ c ∈ ([wA n, wB n] : List Nat), c < 128 := by
  intro c hc
  simp only [List.mem_cons, List.not_mem_nil, or_false] at hc
  rcases hc with rfl | rfl
  · unfold wA; omega
  · unfold wB; omega
theorem chr_of {c : Nat} (h : c < 128) : builtinV .chr [.int (c : Nat)] = some (.str ⟨#[c]⟩ false) := by
  refine if_pos ?_
  rw [decide_eq_true (Int.natCast_nonneg c), decide_eq_true (show (c : Int) < 128 from Int.ofNat_lt.mpr h)]; rfl
theorem join_w (n : Nat) : methV (.str "" true) .join [.lst (([wA n, wB n] : List Nat).map fun c => .str ⟨#[c]⟩ false)] = some (wordP n) := by
  show (if JoinOk "" [⟨#[wA n]⟩, ⟨#[wB n]⟩] then mkS (Txt.join "" [⟨#[wA n]⟩, ⟨#[wB n]⟩]) else none) = _
  rfl
noncomputable def isB (o : Option Bool) (b : Bool) : Bool := match o with
  | some c => c == b
  | none => false
theorem isB_is {o : Option Bool} {b : Bool} (h : isB o b = true) : o = some b := by
  cases o with
  | none => exact no_ft h
  | some c => rw [beq_iff_eq.mp (show (c == b) = true from h)]
noncomputable def gA (n : Nat) : Bool := tn n []
noncomputable def gM (n : Nat) : Bool := tn n [false] != tn n [true]
noncomputable def gU (n : Nat) : Bool := tn n [false, false] != (tn n [true, false] != (tn n [false, true] != tn n [true, true]))
theorem t_let : ((List.range 128).all fun n => isB (cmpV .In (.str ⟨#[wA (128 + n)]⟩ true) (.str "MNOP" true)) (gA (128 + n)) && isB (cmpV .In (.str ⟨#[wA (128 + n)]⟩ true) (.str "JKNO" true)) (gM (128 + n)) && isB (cmpV .In (.str ⟨#[wB (128 + n)]⟩ true) (.str "BCEHILNO" true)) (gU (128 + n))) = true := by kernel_rfl
theorem let_at {n : Nat} (h : n < 128) : cmpV .In (.str ⟨#[wA (128 + n)]⟩ true) (.str "MNOP" true) = some (gA (128 + n)) ∧ cmpV .In (.str ⟨#[wA (128 + n)]⟩ true) (.str "JKNO" true) = some (gM (128 + n)) ∧ cmpV .In (.str ⟨#[wB (128 + n)]⟩ true) (.str "BCEHILNO" true) = some (gU (128 + n)) := by
  have := List.all_eq_true.mp t_let n (List.mem_range.mpr h)
  rw [Bool.and_eq_true, Bool.and_eq_true] at this
  exact ⟨isB_is this.1.1, isB_is this.1.2, isB_is this.2⟩
theorem ix_w0 (n : Nat) : idxV (wordP n) (.int 0) = some (.str ⟨#[wA n]⟩ true) := rfl
theorem ix_w1 (n : Nat) : idxV (wordP n) (.int 1) = some (.str ⟨#[wB n]⟩ true) := rfl

-- doors
theorem rng_doors : iterB .range [.int 8, .int 16] = some (doors8.map fun q => PV.int (numW q : Nat)) := rfl
theorem rng_8 : iterB .range [.int 8] = some (doors8.map fun q => PV.int (numD q)) := rfl
theorem ix_doors {q : Way} (hq : q ∈ doors8) : idxV (.lst (doors8.map pv)) (.int (numD q)) = some (pv q) := by
  unfold doors8 at hq
  simp only [List.mem_cons, List.not_mem_nil, or_false] at hq
  rcases hq with rfl | rfl | rfl | rfl | rfl | rfl | rfl | rfl <;> kernel_rfl
noncomputable def pageP (T : Way → Bool) : List PV := doors8.map fun q => pv (act T q)
theorem zip_doors (T : Way → Bool) : iterB .zip [.lst (doors8.map pv), .lst (pageP T)] = some (doors8.map fun q => .tup [pv q, pv (act T q)]) := rfl
theorem pairs_doors (T : Way → Bool) : asPairs (doors8.map fun q => .tup [pv q, pv (act T q)]) = some (tblW (act T)) := rfl
theorem t_clean : (doors8.all fun q => cleanS (pth q) && PyData.strOk (pth q)) = true := by kernel_rfl
theorem clean_doors (T : Way → Bool) : (tblW (act T)).all (fun kv => cleanS kv.1 && cleanS kv.2) = true := by
  unfold tblW
  rw [List.all_map]
  refine List.all_eq_true.mpr fun q hq => ?_
  have h1 := List.all_eq_true.mp t_clean q hq
  have h2 := List.all_eq_true.mp t_clean _ (act_door T hq)
  rw [Bool.and_eq_true] at h1 h2
  show (cleanS (pth q) && cleanS (pth (act T q))) = true
  rw [h1.1, h2.1]; rfl
theorem eqs_refl : ∀ l : List Way, eqPs (l.map pv) (l.map pv) = some true
  | [] => rfl
  | p :: l => by
    show (some (pth p == pth p)).bind (fun b => if b then eqPs (l.map pv) (l.map pv) else some false) = _
    rw [beq_self_eq_true, Option.bind_some, if_pos rfl, eqs_refl l]
theorem oks_doors : ∀ l : List Way, (∀ q ∈ l, q ∈ doors8) → okDs 6 (l.map pv) = true
  | [], _ => rfl
  | p :: l, h => by
    have h1 := List.all_eq_true.mp t_clean p (h p (List.mem_cons_self ..))
    rw [Bool.and_eq_true] at h1
    show (PyData.strOk (pth p) && okDs 6 (l.map pv)) = true
    rw [h1.2, oks_doors l fun q hq => h q (List.mem_cons_of_mem _ hq)]; rfl
theorem page_is (T : Way → Bool) : pageP T = (doors8.map (act T)).map pv := rfl
theorem page_in (T : Way → Bool) : ∀ q ∈ doors8.map (act T), q ∈ doors8 := fun q hq => by
  obtain ⟨q', hq', rfl⟩ := List.mem_map.mp hq
  exact act_door T hq'
theorem same_pages (T1 T2 : Way → Bool) : cmpV .NotEq (.lst [.lst (pageP T1), .lst (pageP T2)]) (.lst [.lst (pageP T1), .lst (pageP T2)]) = some false := by
  rw [page_is, page_is]
  have o1 := oks_doors _ (page_in T1)
  have o2 := oks_doors _ (page_in T2)
  have e1 := eqs_refl (doors8.map (act T1))
  have e2 := eqs_refl (doors8.map (act T2))
  generalize (doors8.map (act T1)).map pv = a at *
  generalize (doors8.map (act T2)).map pv = c at *
  have ok : okD 8 (.lst [.lst a, .lst c]) = true := by
    show (okDs 6 a && (okDs 6 c && true)) = true
    rw [o1, o2]; rfl
  have e : eqP (.lst [.lst a, .lst c]) (.lst [.lst a, .lst c]) = some true := by
    show (eqPs a a).bind (fun b => if b then (eqPs c c).bind (fun b => if b then some true else some false) else some false) = _
    rw [e1, e2]; rfl
  have t : eqTop (.lst [.lst a, .lst c]) (.lst [.lst a, .lst c]) = some true := by
    refine (if_pos ?_).trans e
    rw [ok]; rfl
  show (eqTop (.lst [.lst a, .lst c]) (.lst [.lst a, .lst c])).map (!·) = _
  rw [t]; rfl

-- the walk over the doors
noncomputable def stepL (T : Way → Bool) (s : Nat × List Way) (q : Way) : Option (Nat × List Way) := if elemW s.2 q then some s else if grow1 T (ringW (act T) 8 [] q) 3 1 then some (s.1 + 1, s.2 ++ ringW (act T) 8 [] q) else none
theorem loop_fold (T : Way → Bool) : ∀ (l : List Way) (r : Nat) (seen : List Way), loopW (act T) (fun ring => grow1 T ring 3 1) l r seen = (Y.foldO (stepL T) l (r, seen)).map (·.1)
  | [], _, _ => rfl
  | q :: l, r, seen => by
    show (if elemW seen q then loopW (act T) (fun ring => grow1 T ring 3 1) l r seen else if grow1 T (ringW (act T) 8 [] q) 3 1 then loopW (act T) (fun ring => grow1 T ring 3 1) l (r + 1) (seen ++ ringW (act T) 8 [] q) else none) = ((stepL T (r, seen) q).bind fun s => Y.foldO (stepL T) l s).map (·.1)
    unfold stepL
    dsimp only
    cases elemW seen q with
    | true => rw [if_pos rfl, if_pos rfl]; exact loop_fold T l r seen
    | false =>
      rw [if_neg Bool.false_ne_true, if_neg Bool.false_ne_true]
      cases grow1 T (ringW (act T) 8 [] q) 3 1 with
      | true => rw [if_pos rfl, if_pos rfl]; exact loop_fold T l _ _
      | false => rfl
theorem fin_both (T1 T2 : Way → Bool) : (∀ q ∈ doors8, ringEnd (act (both T1 T2)) 8 [] q = true) ∧ ∃ s, Y.foldO (stepL (both T1 T2)) doors8 (0, []) = some s ∧ ((s.1 == 1) == low (both T1 T2)) = true := by
  have h : finW (both T1 T2) = true := fin_tb ..
  unfold finW at h
  rw [Bool.and_eq_true, loop_fold] at h
  refine ⟨fun q hq => ?_, ?_⟩
  · have := List.all_eq_true.mp h.1 q hq
    rw [Bool.and_eq_true] at this
    exact this.1
  · have h2 := h.2
    cases hs : Y.foldO (stepL (both T1 T2)) doors8 (0, []) with
    | none => rw [hs] at h2; exact no_ft h2
    | some s => rw [hs] at h2; exact ⟨s, rfl, h2⟩
theorem lsts (T1 T2 : Way → Bool) (f : (Way → Bool) → PV) : ([T1, T2] : List (Way → Bool)).map f = [f T1, f T2] := rfl
end Mine
end

section
set_option maxHeartbeats 8000000
open PySem PySem.Calls PyProof.Rows PySem.Spec PySem.Builtin PySem.Builtin.Str PySem.W
namespace Mine
local macro_rules | `(tactic| walk_at "lk") => `(tactic| first | with_reducible assumption | with_reducible exact Y.lkS | (refine (Y.lkN rfl).trans ?_; walk_at "lk") | (refine (Y.lkC rfl).trans ?_; walk_at "lk") | rfl)
local macro_rules | `(tactic| walk_at "v") => `(tactic| first | with_reducible assumption | rfl)
local macro_rules | `(tactic| walk_at "le") => `(tactic| first | with_reducible assumption | exact Nat.le_of_ble_eq_true rfl)

theorem law_run (k : Nat) {ns ms : List Int} {t0 t1 : Int} {n m : Nat} (hsl : sliceV (.lst (ns.map PV.int)) none (some 12) none = some (.lst (ms.map PV.int))) (hlen : (ms.map PV.int).length ≤ lim)
    (hs0 : builtinV .sum [.lst (pickL (ms.map fun a => PV.int (a.fmod 1000000)) none none (some 2))] = some (.int t0)) (hs1 : builtinV .sum [.lst (pickL (ms.map fun a => PV.int (a.fmod 1000000)) (some 1) none (some 2))] = some (.int t1))
    (h1 : binV .Mod (.int (19 + t0)) (.int 128) = some (.int (n : Nat))) (h2 : binV .Mod (.int (71 + t1)) (.int 128) = some (.int (m : Nat))) (hn : n < 128) (hm : m < 128) : (evN G2 (k + 120)).F "law" [.lst (ns.map PV.int)] = some (.bool true) := by
  obtain ⟨hend, s, hfold, hlow⟩ := fin_both (tn (128 + n)) (tn (128 + m))
  refine Y.fn' (vs := [("script", .lst (ns.map PV.int))]) rfl rfl rfl ?_
  dsimp only
  apply Y.kAsg
  · rfl
  · apply Y.lcomp'
    · rfl
    · apply Y.iterP
      · rfl
      · apply Y.slice
        · exact Y.name rfl rfl
        · exact Y.part0
        · apply Y.part1
          · exact Y.const rfl
          · walk_at "v"
        · exact Y.part0
        · walk_at "v"
      · walk_at "v"
    · walk_at "le"
    · exact (Y.filF rfl Y.filN)
    · apply Y.compMap PV.int (fun a => PV.int (a.fmod 1000000))
      intro a _
      apply Y.exEv
      · apply Y.bindN
        exact Y.setL rfl rfl (Y.updN)
      · apply Y.bin
        · apply Y.callB1
          · rfl
          · rfl
          · rfl
          · rfl
          · apply Y.brwN
            · rfl
            · exact Y.name rfl rfl
          · walk_at "v"
        · apply Y.bin
          · exact Y.const rfl
          · exact Y.const rfl
          · walk_at "v"
        · walk_at "v"
  · exact Y.setL rfl rfl (Y.updF rfl (Y.updN))
  apply Y.kAsg2 (p := .int (128 + n : Nat)) (q := .int (128 + m : Nat))
  · rfl
  · rfl
  · rfl
  · rfl
  · apply Y.bin
    · exact Y.const rfl
    · apply Y.bin
      · apply Y.bin
        · exact Y.const rfl
        · apply Y.callB1
          · rfl
          · rfl
          · rfl
          · rfl
          · apply Y.brwN
            · rfl
            · apply Y.slice
              · exact Y.name rfl rfl
              · exact Y.part0
              · exact Y.part0
              · apply Y.part1
                · exact Y.const rfl
                · walk_at "v"
              · walk_at "v"
          · walk_at "v"
        · walk_at "v"
      · exact Y.const rfl
      · walk_at "v"
    · walk_at "v"
  · apply Y.bin
    · exact Y.const rfl
    · apply Y.bin
      · apply Y.bin
        · exact Y.const rfl
        · apply Y.callB1
          · rfl
          · rfl
          · rfl
          · rfl
          · apply Y.brwN
            · rfl
            · apply Y.slice
              · exact Y.name rfl rfl
              · apply Y.part1
                · exact Y.const rfl
                · walk_at "v"
              · exact Y.part0
              · apply Y.part1
                · exact Y.const rfl
                · walk_at "v"
              · walk_at "v"
          · walk_at "v"
        · walk_at "v"
      · exact Y.const rfl
      · walk_at "v"
    · walk_at "v"
  · exact Y.setL rfl rfl (Y.updF rfl (Y.updF rfl (Y.updN)))
  · exact Y.setL rfl rfl (Y.updF rfl (Y.updF rfl (Y.updF rfl (Y.updN))))
  -- word, mate
  apply Y.kAsgU (p := .lst [wordP (128 + n), wordP (128 + m)])
  · rfl
  · rfl
  · apply Y.lcomp' (ps := ([(PV.int (128 + n : Nat), n), (PV.int (-((128 + m : Nat) : Int)), m)] : List (PV × Nat)).map (·.1)) (qs := ([(PV.int (128 + n : Nat), n), (PV.int (-((128 + m : Nat) : Int)), m)] : List (PV × Nat)).map fun a => wordP (128 + a.2))
    · rfl
    · apply Y.iterP
      · rfl
      · apply Y.list
        · apply Y.evs1
          · exact Y.name rfl rfl
          · apply Y.evs1
            · apply Y.neg
              · exact Y.name rfl rfl
            · exact Y.evs0
        · walk_at "le"
      · walk_at "v"
    · walk_at "le"
    · exact (Y.filF rfl (Y.filF rfl (Y.filF rfl (Y.filF rfl Y.filN))))
    · refine Y.compMap (fun a : PV × Nat => a.1) (fun a => wordP (128 + a.2)) _ fun a ha => ?_
      have hF : ∀ k, (evN G2 (k + 40)).F "Int2AP" [a.1] = some (.bytes (apB (128 + a.2))) := fun k => by
        simp only [List.mem_cons, List.not_mem_nil, or_false] at ha
        rcases ha with rfl | rfl
        · exact ap_F k hn
        · exact apn_F k hm
      have ha2 : 128 + a.2 < 256 := by
        simp only [List.mem_cons, List.not_mem_nil, or_false] at ha
        rcases ha with rfl | rfl
        · exact Nat.add_lt_add_left hn 128
        · exact Nat.add_lt_add_left hm 128
      refine ⟨_, Y.bindN (Y.setL rfl rfl Y.updN), ?_⟩
      apply Y.callM
      · decide
      · rfl
      · exact Y.const rfl
      · rfl
      · rfl
      · apply Y.evs1
        · apply Y.lcomp'
          · rfl
          · apply Y.iterP
            · rfl
            · apply Y.callF
              · decide
              · rfl
              · rfl
              · apply Y.evs1
                · exact Y.name rfl rfl
                · exact Y.evs0
              · exact hF _
            · exact ap_items ha2
          · walk_at "le"
          · exact (Y.filF rfl Y.filN)
          · refine Y.compMap (fun c : Nat => PV.int (c : Nat)) (fun c => PV.str ⟨#[c]⟩ false) _ fun c hc => ⟨_, Y.bindN (Y.setL rfl rfl Y.updN), ?_⟩
            apply Y.callB1
            · rfl
            · rfl
            · rfl
            · rfl
            · exact Y.brwP rfl (Y.name rfl rfl)
            · exact chr_of (w_lt ha2 c hc)
        · exact Y.evs0
      · exact join_w _
  · apply Y.bind2L
    · exact Y.setL rfl rfl (Y.updF rfl (Y.updF rfl (Y.updF rfl (Y.updF rfl (Y.updN)))))
    · exact Y.setL rfl rfl (Y.updF rfl (Y.updF rfl (Y.updF rfl (Y.updF rfl (Y.updF rfl (Y.updN))))))
  -- turned, again
  apply Y.kAsg2
  · rfl
  · rfl
  · rfl
  · rfl
  · apply Y.callF
    · decide
    · rfl
    · rfl
    · apply Y.evs1
      · exact Y.name rfl rfl
      · exact Y.evs0
    · exact turn_F _ hn
  · apply Y.callF
    · decide
    · rfl
    · rfl
    · apply Y.evs1
      · exact Y.name rfl rfl
      · exact Y.evs0
    · exact turn_F _ hm
  · exact Y.setL rfl rfl (Y.updF rfl (Y.updF rfl (Y.updF rfl (Y.updF rfl (Y.updF rfl (Y.updF rfl (Y.updN)))))))
  · exact Y.setL rfl rfl (Y.updF rfl (Y.updF rfl (Y.updF rfl (Y.updF rfl (Y.updF rfl (Y.updF rfl (Y.updF rfl (Y.updN))))))))
  -- doors
  apply Y.kAsg (p := .lst (doors8.map pv))
  · rfl
  · apply Y.lcomp
    · rfl
    · apply Y.iterN
      · rfl
      · rfl
      · apply Y.evs1
        · exact Y.const rfl
        · apply Y.evs1
          · exact Y.const rfl
          · exact Y.evs0
      · exact rng_doors
    · walk_at "le"
    · refine Y.compMap (fun q => PV.int (numW q : Nat)) pv doors8 fun q hq => ⟨_, Y.bindN (setV_local rfl rfl), ?_⟩
      apply Y.callF
      · decide
      · rfl
      · rfl
      · apply Y.evs1
        · exact Y.name rfl (by walk_at "lk")
        · exact Y.evs0
      · exact path_F _ (List.mem_append_right _ hq)
  · exact setV_mk rfl (by first | exact .inl rfl | exact .inr rfl)
  -- pages
  apply Y.kAsg (p := .lst [.lst (pageP (tn (128 + n))), .lst (pageP (tn (128 + m)))])
  · rfl
  · apply Y.lcomp (ps := ([tn (128 + n), tn (128 + m)] : List (Way → Bool)).map fun T => .lst ((posts7.filter T).map pv)) (qs := ([tn (128 + n), tn (128 + m)] : List (Way → Bool)).map fun T => .lst (pageP T))
    · rfl
    · apply Y.iterP
      · rfl
      · apply Y.list
        · apply Y.evs1
          · exact Y.name rfl rfl
          · apply Y.evs1
            · exact Y.name rfl rfl
            · exact Y.evs0
        · walk_at "le"
      · rfl
    · walk_at "le"
    · refine Y.compMap _ _ _ fun T hT => ⟨_, Y.bindN (setV_mk rfl (by first | exact .inl rfl | exact .inr rfl)), ?_⟩
      apply Y.lcomp
      · rfl
      · apply Y.iterP
        · rfl
        · exact Y.name rfl (by walk_at "lk")
        · rfl
      · walk_at "le"
      · refine Y.compMap pv (fun q => pv (act T q)) doors8 fun q hq => ⟨_, Y.bindN (setV_local rfl rfl), ?_⟩
        apply Y.callF
        · decide
        · rfl
        · rfl
        · apply Y.evs1
          · exact Y.name rfl (by walk_at "lk")
          · apply Y.evs1
            · exact Y.name rfl (by walk_at "lk")
            · exact Y.evs0
        · exact led_F _ T hq
  · exact setV_mk rfl (by first | exact .inl rfl | exact .inr rfl)
  apply Y.kIf (b := false)
  · apply Y.tcmp
    · exact Y.name rfl rfl
    · apply Y.brwP
      · exact rfl
      apply Y.lcomp (ps := ([n, m] : List Nat).map fun a => PV.int (128 + a : Nat)) (qs := ([n, m] : List Nat).map fun a => .lst (pageP (tn (128 + a))))
      · rfl
      · apply Y.iterP
        · rfl
        · apply Y.list
          · apply Y.evs1
            · exact Y.name rfl rfl
            · apply Y.evs1
              · exact Y.name rfl rfl
              · exact Y.evs0
          · walk_at "le"
        · rfl
      · walk_at "le"
      · refine Y.compMap _ _ _ fun a ha => ⟨_, Y.bindN (setV_mk rfl (by first | exact .inl rfl | exact .inr rfl)), ?_⟩
        have ha2 : a < 128 := by
          simp only [List.mem_cons, List.not_mem_nil, or_false] at ha
          rcases ha with rfl | rfl
          · exact hn
          · exact hm
        apply Y.lcomp
        · rfl
        · apply Y.iterN
          · rfl
          · rfl
          · apply Y.evs1
            · exact Y.const rfl
            · exact Y.evs0
          · exact rng_8
        · walk_at "le"
        · refine Y.compMap (fun q => PV.int (numD q)) (fun q => pv (act (tn (128 + a)) q)) doors8 fun q hq => ⟨_, Y.bindN (setV_local rfl rfl), ?_⟩
          apply Y.idx
          · rfl
          · exact Y.brwP rfl (Y.name rfl (by walk_at "lk"))
          · apply Y.callF
            · decide
            · rfl
            · rfl
            · apply Y.evs1
              · exact Y.name rfl (by walk_at "lk")
              · apply Y.evs1
                · exact Y.name rfl (by walk_at "lk")
                · exact Y.evs0
            · exact reck_F _ ha2 hq
          · exact ix_doors (act_door _ hq)
    · exact same_pages _ _
  refine Y.iF rfl ?_
  apply Y.kNilA
  -- first, second
  apply Y.kAsgU (p := .lst [.hdr (tblW (act (tn (128 + n)))), .hdr (tblW (act (tn (128 + m))))])
  · rfl
  · rfl
  · apply Y.lcomp (ps := ([tn (128 + n), tn (128 + m)] : List (Way → Bool)).map fun T => .lst (pageP T)) (qs := ([tn (128 + n), tn (128 + m)] : List (Way → Bool)).map fun T => .hdr (tblW (act T)))
    · rfl
    · apply Y.iterP
      · rfl
      · exact Y.name rfl rfl
      · rfl
    · walk_at "le"
    · refine Y.compMap _ _ _ fun T hT => ⟨_, Y.bindN (setV_mk rfl (by first | exact .inl rfl | exact .inr rfl)), ?_⟩
      apply Y.callH
      · rfl
      · rfl
      · rfl
      · apply Y.lcomp
        · rfl
        · apply Y.iterN
          · rfl
          · rfl
          · apply Y.evs1
            · exact Y.name rfl (by walk_at "lk")
            · apply Y.evs1
              · exact Y.name rfl (by walk_at "lk")
              · exact Y.evs0
          · exact zip_doors T
        · walk_at "le"
        · refine Y.compMap (fun q => PV.tup [pv q, pv (act T q)]) (fun q => PV.tup [pv q, pv (act T q)]) doors8 fun q hq => ⟨_, Y.bind2 (setV_local rfl rfl) (setV_local rfl rfl), ?_⟩
          apply Y.tuple
          · apply Y.evs1
            · exact Y.name rfl (by walk_at "lk")
            · apply Y.evs1
              · exact Y.name rfl (by walk_at "lk")
              · exact Y.evs0
          · walk_at "le"
      · exact pairs_doors T
      · exact clean_doors T
  · apply Y.bind2L
    · exact setV_mk rfl (by first | exact .inl rfl | exact .inr rfl)
    · exact setV_mk rfl (by first | exact .inl rfl | exact .inr rfl)
  apply Y.kAsg2 (p := .int ((0 : Nat) : Int)) (q := .lst [])
  · rfl
  · rfl
  · rfl
  · rfl
  · exact Y.const rfl
  · exact Y.list Y.evs0 (by decide)
  · exact setV_mk rfl (by first | exact .inl rfl | exact .inr rfl)
  · exact setV_mk rfl (by first | exact .inl rfl | exact .inr rfl)
  apply Y.kForP (ps := doors8.map pv)
  · rfl
  · apply Y.iterP
    · rfl
    · exact Y.name rfl (by walk_at "lk")
    · rfl
  have hh : ∀ q ∈ doors8, act (both (tn (128 + n)) (tn (128 + m))) q ∈ doors8 := fun q hq => act_door _ hq
  refine Y.fExit (fun j (s : Nat × List Way) ε => ε.own = none ∧ ε.vars.lookup ("turned" : Str) = some (.lst ((posts7.filter (tn (128 + n))).map pv)) ∧ ε.vars.lookup ("again" : Str) = some (.lst ((posts7.filter (tn (128 + m))).map pv)) ∧ ε.vars.lookup ("first" : Str) = some (.hdr (tblW (act (tn (128 + n))))) ∧
      ε.vars.lookup ("second" : Str) = some (.hdr (tblW (act (tn (128 + m))))) ∧ ε.vars.lookup ("rings" : Str) = some (.int (s.1 : Nat)) ∧ ε.vars.lookup ("seen" : Str) = some (.lst (s.2.map pv)) ∧ ε.vars.lookup ("word" : Str) = some (wordP (128 + n)) ∧ ε.vars.lookup ("mate" : Str) = some (wordP (128 + m)) ∧ s.2.length + 8 * j ≤ 64)
    (stepL (both (tn (128 + n)) (tn (128 + m)))) (.bool false) doors8 (s := (0, [])) ⟨rfl, by walk_at "lk", by walk_at "lk", by walk_at "lk", by walk_at "lk", by walk_at "lk", by walk_at "lk", by walk_at "lk", by walk_at "lk", by decide⟩ (fun q hq j st ε hI k' hk hk' => ?_) (fun s' hs ε' hI => ?_) (fun hs ε' => ?_)
  · obtain ⟨ho, e1, e2, e3, e4, e5, e6, e7, e8, hl⟩ := hI
    refine ⟨_, Y.bindN (setV_mk (by unfold isOwn; rw [ho]) (by first | exact .inl rfl | exact .inr rfl)), ?_⟩
    apply Y.kIf (b := !elemW st.2 q)
    · apply Y.tcmp
      · exact Y.name rfl (by walk_at "lk")
      · exact Y.brwP ho (Y.name rfl (by walk_at "lk"))
      · exact notIn_pv _ _
    cases hin : elemW st.2 q with
    | true =>
      have hst : stepL (both (tn (128 + n)) (tn (128 + m))) st q = some st := by unfold stepL; rw [hin]; rfl
      refine Y.iF rfl ?_
      apply Y.kNilA
      apply Y.kNil
      exact hk _ hst _ ⟨ho, by walk_at "lk", by walk_at "lk", by walk_at "lk", by walk_at "lk", by walk_at "lk", by walk_at "lk", by walk_at "lk", by walk_at "lk", Nat.le_trans (Nat.add_le_add_left (Nat.mul_le_mul_left 8 (Nat.le_succ j)) _) hl⟩
    | false =>
      have hrl := ring_len (act (both (tn (128 + n)) (tn (128 + m)))) 8 [] q
      have hri := ring_in _ hh 8 [] q (fun _ h => nomatch h) hq
      have hgr := grow_both (tn (128 + n)) (tn (128 + m)) (both (tn (128 + n)) (tn (128 + m))) (both_at _ _) (ringW (act (both (tn (128 + n)) (tn (128 + m)))) 8 [] q) 3 1
      refine Y.iT rfl ?_
      apply Y.kAsg
      · rfl
      · apply Y.callF
        · decide
        · rfl
        · rfl
        · apply Y.evs1
          · exact Y.name rfl (by walk_at "lk")
          · apply Y.evs1
            · exact Y.name rfl (by walk_at "lk")
            · apply Y.evs1
              · exact Y.name rfl (by walk_at "lk")
              · exact Y.evs0
        · exact ring_F _ (fun q hq => act_door _ hq) (fun q hq => both_act _ _ q hq) hh hq (hend q hq)
      · exact setV_mk (by unfold isOwn; rw [ho]) (by first | exact .inl rfl | exact .inr rfl)
      apply Y.kIf
      · apply Y.tnot
        apply Y.tcall
        · apply Y.callF
          · decide
          · rfl
          · rfl
          · apply Y.evs1
            · exact Y.name rfl (by walk_at "lk")
            · apply Y.evs1
              · exact Y.name rfl (by walk_at "lk")
              · apply Y.evs1
                · exact Y.name rfl (by walk_at "lk")
                · apply Y.evs1
                  · exact Y.name rfl (by walk_at "lk")
                  · exact Y.evs0
          · exact grown_F _ hri hrl
        · rfl
      rw [hgr]
      cases hg : grow1 (both (tn (128 + n)) (tn (128 + m))) (ringW (act (both (tn (128 + n)) (tn (128 + m)))) 8 [] q) 3 1 with
      | false =>
        have hst : stepL (both (tn (128 + n)) (tn (128 + m))) st q = none := by unfold stepL; rw [hin, hg]; rfl
        refine Y.iT rfl ?_
        apply Y.kRet
        · exact Y.ownN ho
        · exact Y.const rfl
        · exact hk' hst _
      | true =>
        have hst : stepL (both (tn (128 + n)) (tn (128 + m))) st q = some (st.1 + 1, st.2 ++ ringW (act (both (tn (128 + n)) (tn (128 + m)))) 8 [] q) := by unfold stepL; rw [hin, hg]; rfl
        have hl2 : (st.2 ++ ringW (act (both (tn (128 + n)) (tn (128 + m)))) 8 [] q).length + 8 * j ≤ 64 := by
          rw [List.length_append]
          have : (ringW (act (both (tn (128 + n)) (tn (128 + m)))) 8 [] q).length ≤ 8 := hrl
          omega
        refine Y.iF rfl ?_
        apply Y.kNilA
        apply Y.kAsg2 (p := .int ((st.1 + 1 : Nat) : Int)) (q := .lst ((st.2 ++ ringW (act (both (tn (128 + n)) (tn (128 + m)))) 8 [] q).map pv))
        · rfl
        · rfl
        · rfl
        · rfl
        · apply Y.bin
          · exact Y.name rfl (by walk_at "lk")
          · exact Y.const rfl
          · rfl
        · apply Y.bin
          · exact Y.name rfl (by walk_at "lk")
          · exact Y.name rfl (by walk_at "lk")
          · rw [List.map_append]
            refine if_pos ?_
            rw [← List.map_append, List.length_map]
            exact Nat.le_trans (Nat.le_trans (Nat.le_add_right _ _) hl2) (by decide)
        · exact setV_mk (by unfold isOwn; rw [ho]) (by first | exact .inl rfl | exact .inr rfl)
        · exact setV_mk (by unfold isOwn; rw [ho]) (by first | exact .inl rfl | exact .inr rfl)
        apply Y.kNil
        exact hk _ hst _ ⟨ho, by walk_at "lk", by walk_at "lk", by walk_at "lk", by walk_at "lk", by walk_at "lk", by walk_at "lk", by walk_at "lk", by walk_at "lk", hl2⟩
  · obtain ⟨ho, e1, e2, e3, e4, e5, e6, e7, e8, hl⟩ := hI
    obtain rfl := Option.some.inj (hs.symm.trans hfold)
    have l1 := let_at hn
    have l2 := let_at hm
    apply Y.afterA
    apply Y.kAsg
    · rfl
    · apply Y.cmp
      · apply Y.cmp
        · apply Y.idx
          · rfl
          · exact Y.brwP ho (Y.name rfl (by walk_at "lk"))
          · exact Y.const rfl
          · exact ix_w0 _
        · exact Y.brwP ho (Y.const rfl)
        · exact l1.1
      · apply Y.brwP
        · exact ho
        apply Y.cmp
        · apply Y.idx
          · rfl
          · exact Y.brwP ho (Y.name rfl (by walk_at "lk"))
          · exact Y.const rfl
          · exact ix_w0 _
        · exact Y.brwP ho (Y.const rfl)
        · exact l2.1
      · rfl
    · exact setV_mk (by unfold isOwn; rw [ho]) (by first | exact .inl rfl | exact .inr rfl)
    apply Y.kAsg
    · rfl
    · apply Y.cmp
      · apply Y.cmp
        · apply Y.idx
          · rfl
          · exact Y.brwP ho (Y.name rfl (by walk_at "lk"))
          · exact Y.const rfl
          · exact ix_w0 _
        · exact Y.brwP ho (Y.const rfl)
        · exact l1.2.1
      · apply Y.brwP
        · exact ho
        apply Y.cmp
        · apply Y.idx
          · rfl
          · exact Y.brwP ho (Y.name rfl (by walk_at "lk"))
          · exact Y.const rfl
          · exact ix_w0 _
        · exact Y.brwP ho (Y.const rfl)
        · exact l2.2.1
      · rfl
    · exact setV_mk (by unfold isOwn; rw [ho]) (by first | exact .inl rfl | exact .inr rfl)
    apply Y.kAsg
    · rfl
    · apply Y.cmp
      · apply Y.cmp
        · apply Y.idx
          · rfl
          · exact Y.brwP ho (Y.name rfl (by walk_at "lk"))
          · exact Y.const rfl
          · exact ix_w1 _
        · exact Y.brwP ho (Y.const rfl)
        · exact l1.2.2
      · apply Y.brwP
        · exact ho
        apply Y.cmp
        · apply Y.idx
          · rfl
          · exact Y.brwP ho (Y.name rfl (by walk_at "lk"))
          · exact Y.const rfl
          · exact ix_w1 _
        · exact Y.brwP ho (Y.const rfl)
        · exact l2.2.2
      · rfl
    · exact setV_mk (by unfold isOwn; rw [ho]) (by first | exact .inl rfl | exact .inr rfl)
    apply Y.kRet
    · exact Y.ownN ho
    · apply Y.cmp
      · apply Y.cmp
        · exact Y.name rfl (by walk_at "lk")
        · exact Y.brwP ho (Y.const rfl)
        · rfl
      · apply Y.brwP
        · exact ho
        apply Y.and3
        · exact Y.name rfl (by walk_at "lk")
        · exact Y.name rfl (by walk_at "lk")
        · exact Y.name rfl (by walk_at "lk")
      · rfl
    · rw [low_both] at hlow
      show some (PV.bool (((s'.1 : Int) == ((1 : Nat) : Int)) == ((gA (128 + n) != gA (128 + m)) && (gM (128 + n) != gM (128 + m)) && (gU (128 + n) != gU (128 + m))))) = _
      rw [nat_eq]
      exact congrArg (fun b => some (PV.bool b)) hlow
  · rw [hs] at hfold; exact no_some hfold

theorem plain2 (k : Nat) (ns : List Int) (h : ns.length ≤ 63) : (evN G2 (k + 120)).F "law" [.lst (ns.map PV.int)] = some (.bool true) := by
  have hl : (pickL ns none (some 12) none).length ≤ 100 := Nat.le_trans (pick_len ..) (Nat.le_trans h (by decide))
  have hsl : sliceV (.lst (ns.map PV.int)) none (some 12) none = some (.lst ((pickL ns none (some 12) none).map PV.int)) := by
    show some (PV.lst (pickL (ns.map PV.int) none (some 12) none)) = _
    rw [pick_map]
  generalize pickL ns none (some 12) none = ms at hl hsl
  obtain ⟨t0, hs0⟩ := sum_pick ms hl none none (some 2)
  obtain ⟨t1, hs1⟩ := sum_pick ms hl (some 1) none (some 2)
  obtain ⟨n, hn, h1⟩ := modN (19 + t0) (d := 128) (by decide)
  obtain ⟨m, hm, h2⟩ := modN (71 + t1) (d := 128) (by decide)
  refine law_run k hsl (by rw [List.length_map]; exact Nat.le_trans hl (by decide)) hs0 hs1 ?_ ?_ hn hm
  · show some (PV.int ((19 + t0).fmod 128)) = _
    exact congrArg (fun z => some (PV.int z)) h1
  · show some (PV.int ((71 + t1).fmod 128)) = _
    exact congrArg (fun z => some (PV.int z)) h2
end Mine
end

namespace Mine
set_option maxHeartbeats 8000000 in
open_top hd for PySem.Challenge.rw_ti0039_02
end Mine

section
set_option maxHeartbeats 4000000
open PySem PySem.Calls PyProof.Rows PySem.Spec PySem.Builtin PySem.Builtin.Str PySem.W
namespace Mine

theorem hdrk2 (P : Params) : HdrK (hd.heap_39 P) 185 132 137 149 84 77 where
  plain := fun _ => by rfl
  hasDict := by rfl
  noHeaders := by rfl
  get := by refine ⟨?_, ?_, ?_⟩ <;> rfl
  keys := by refine ⟨?_, ?_, ?_⟩ <;> rfl
  items := by refine ⟨?_, ?_, ?_⟩ <;> rfl
  conv := by refine ⟨?_, ?_, ?_⟩ <;> rfl
  init := by refine ⟨?_, ?_⟩ <;> rfl
  makes := by rfl
  keepC := by rfl
  sets := by refine ⟨?_, ?_, ?_⟩ <;> rfl

theorem hdr2 (P : Params) : HdrAll (hd.heap_39 P) 185 132 137 149 84 77 where
  H := hdrk2 P
  get := ⟨_, _, ⟨⟨_, rfl, rfl⟩, ⟨rfl, rfl, rfl, rfl, rfl, rfl, rfl, cell_of rfl⟩, rfl⟩, ⟨_, _, _, _, _, _, _, _, _, _, _, _, _, _, _, _, _, _, _, _, _, _, _, _, _, _, _, _, rfl, rfl, rfl, rfl⟩, rfl, fun s X self x => binds_K X rfl rfl rfl rfl rfl⟩
  keys := ⟨_, _, ⟨⟨_, rfl, rfl⟩, ⟨rfl, rfl, rfl, rfl, rfl, rfl, rfl, cell_of rfl⟩, rfl⟩, ⟨_, _, _, _, _, _, _, _, _, _, rfl, rfl, rfl⟩, rfl, fun self => rfl⟩
  items := ⟨_, _, ⟨⟨_, rfl, rfl⟩, ⟨rfl, rfl, rfl, rfl, rfl, rfl, rfl, cell_of rfl⟩, rfl⟩, ⟨_, _, _, _, _, rfl⟩, rfl, fun self => rfl⟩
  init := ⟨_, _, ⟨⟨_, rfl, rfl⟩, ⟨rfl, rfl, rfl, rfl, rfl, rfl, rfl, cell_of rfl⟩, rfl⟩, ⟨_, _, _, _, _, _, _, _, _, _, _, _, _, _, _, _, _, _, _, _, _, _, _, _, _, _, _, _, _, _, ⟨_, _, ⟨_, _, _, _, _, _, _, _, rfl, rfl⟩, ⟨_, _, _, _, _, _, _, _, rfl, rfl⟩, rfl⟩, rfl⟩, rfl, fun s X self x => binds_K X rfl rfl rfl rfl rfl⟩
end Mine
end

section
set_option maxHeartbeats 4000000
open PySem PySem.Calls PyProof.Rows PySem.Spec PySem.Builtin PySem.Builtin.Str PySem.W
namespace Mine


theorem bks2 (P : Params) : ∀ p ∈ bkNames, nsIn (hd.heap_39 P) mainGlobals p.1 = some none := by
  intro p hp
  unfold bkNames at hp
  simp only [List.mem_cons, List.not_mem_nil, or_false] at hp
  rcases hp with rfl | rfl | rfl | rfl | rfl | rfl | rfl | rfl | rfl | rfl | rfl <;> rfl

theorem fns2 (P : Params) : FnsIn (hd.heap_39 P) G2.fns :=
  And.intro ⟨_, _, _, _, _, _, rfl, rfl, rfl, rfl, rfl, by rfl⟩ <| And.intro ⟨_, _, _, _, _, _, rfl, rfl, rfl, rfl, rfl, by rfl⟩ <| And.intro ⟨_, _, _, _, _, _, rfl, rfl, rfl, rfl, rfl, by rfl⟩ <| And.intro ⟨_, _, _, _, _, _, rfl, rfl, rfl, rfl, rfl, by rfl⟩ <| And.intro ⟨_, _, _, _, _, _, rfl, rfl, rfl, rfl, rfl, by rfl⟩ <| And.intro ⟨_, _, _, _, _, _, rfl, rfl, rfl, rfl, rfl, by rfl⟩ <| And.intro ⟨_, _, _, _, _, _, rfl, rfl, rfl, rfl, rfl, by rfl⟩ <| And.intro ⟨_, _, _, _, _, _, rfl, rfl, rfl, rfl, rfl, by rfl⟩ <| And.intro ⟨_, _, _, _, _, _, rfl, rfl, rfl, rfl, rfl, by rfl⟩ <| And.intro ⟨_, _, _, _, _, _, rfl, rfl, rfl, rfl, rfl, by rfl⟩ trivial

theorem pat1_2 (P : Params) (h : Heap) (X : (hd.heap_39 P).In h) : PatAt h 57 := ⟨56, _, _, _, _, _, nameCode, name_shuns, X _ _ rfl, rfl, rfl, rfl, rfl, rfl, rfl, X _ _ rfl, rfl, by decide +kernel⟩
theorem pat2_2 (P : Params) (h : Heap) (X : (hd.heap_39 P).In h) : PatAt h 62 := ⟨61, _, _, _, _, _, valCode, val_shuns, X _ _ rfl, rfl, rfl, rfl, rfl, rfl, rfl, X _ _ rfl, rfl, by decide +kernel⟩

theorem law2 (P : Params) : LawIn (hd.heap_39 P) G2 185 132 137 149 84 77 where
  hdr := hdr2 P
  bks := bks2 P
  fns := fns2 P
  cls := ⟨rfl, rfl⟩
  konst := ⟨rfl, _, rfl⟩
  conv := ⟨_, _, _, rfl, rfl, ⟨rfl, rfl, rfl, rfl, rfl, rfl, rfl, cell_of rfl⟩, ⟨_, _, _, _, _, _, _, _, _, _, _, _, _, _, _, _, _, _, _, _, _, rfl, rfl⟩, rfl, ⟨rfl, rfl, rfl, rfl⟩, ⟨rfl, rfl, rfl, rfl⟩, fun _ _ _ _ => rfl⟩
  more := ⟨rfl, rfl, rfl⟩
  pats := ⟨57, 62, rfl, rfl, pat1_2 P, pat2_2 P⟩
end Mine
end

section
set_option maxHeartbeats 4000000
open PySem PySem.Calls PyProof.Rows PySem.Spec PySem.Builtin PySem.Builtin.Str PySem.W
namespace Mine

theorem ints_rel {X : ObjW} {N : Addr → Prop} {h : Heap} {tk : Nat} : ∀ {vs : List Value} {ns : List Int}, IntsAre vs ns → RelVs X N h tk (ns.map .int) vs
  | _, _, .nil => .nil
  | _, _, .cons i t r => .cons _ _ _ _ (.int _ _) (ints_rel r)

theorem list_at {P : Params} {h : Heap} {a : Addr} {vs : List Value} {xs : List PyData} (H : h.IsList a vs.toArray) (W : Well P h (.ref a) (ofPy (.list xs))) : h.get? a = some (seqO "list" vs 0) := by
  have W : Well P h (.ref a) (.list (ofPys xs)) := W
  cases W with | list ho _ =>
  obtain ⟨o, ho', hc, n, hd⟩ := H
  rw [ho] at ho'
  cases ho'
  cases hd
  exact ho

theorem post_true (R : WRecords) (a ds : List WData) : (WShape.has R (.bool true) .bool && WTm.holds R (.eq .res (.lit (.bool true))) { args := a, res := some (.bool true), after := ds }) = true := by
  simp [WTm.holds, WTm.value, WShape.has, WShape.arms, PySem.W.same]

theorem room160 : Room 160 callerA := ⟨rfl, by decide, by decide⟩

theorem join2' (plain : ∀ ns : List Int, ns.length ≤ 63 → (evN G2 120).F "law" [.lst (ns.map .int)] = some (.bool true)) : PySem.Challenge.rw_ti0039_02.Holds := hd (by
  intro w s₀ s₁ mg mb G Y fa o pm cd doc dV kV ho hdd hcd hD hmg hg args vals as hpre hlay hrd hwl hlo
  have KX := kIn_of Y
  refine Ground.open G ?_
  intro T B D TE TW
  have St : Start (hd.heap_39 w.params) mg mb s₁.heap := ⟨KX, T.g, T.b, T.nolimit, T.builtins⟩
  wrow_args hpre hlay hrd hwl hlo
  clear hD ho hcd Y D hdd G
  rename_i ns hs hlay0 hL1 hr1 hl2 as1 as2 la vs as3 hL ra w1 r0 hI hr hc1 hc2
  have gn := St.gnd (dct := fun _ _ => False) (sset := SetO PySem.Challenge.rw_ti0039_02.row.prog w) (law2 w.params)
  obtain ⟨a, ha, hfa⟩ := gn.fns "law" _ rfl
  have hfa' : a = fa := by
    rw [ha] at hmg
    cases hmg
    rfl
  subst hfa'
  have XO : XOk PySem.Challenge.rw_ti0039_02.row.prog w (Xh (hd.heap_39 w.params) 185 132 137 149 84 (fun _ _ => False) (SetO PySem.Challenge.rw_ti0039_02.row.prog w) mg mb) := xr_ok (sets_only PySem.Challenge.rw_ti0039_02.row.prog w) (hdr2 w.params)
  have Sn := evN_sound (G := G2) (j := 40) (mg := mg) (mb := mb) XO (comp_set rfl rfl XO) (fun _ => Nat.le_refl _) 119
  have hlen : ns.length ≤ 63 := by
    have : ¬ ((63 : Int) < (ns.length : Int)) := hc1
    omega
  have hvl : vs.length = ns.length := hI.length
  refine wpAny_mono (stepF_sound (N := fun _ => False) (ps := [.lst (ns.map .int)]) (r := .bool true) XO Sn room160 gn (.inr ⟨_, rfl, rfl⟩) (fun _ z => z.elim) rfl hfa (plain ns hlen)
    (.cons _ _ _ _ (.lst _ la vs 0 (fun z => z) (list_at hL w1) (by rw [List.length_map]; exact Nat.le_trans hlen (by decide)) (ints_rel hI)) .nil)) (fun v s' h => ?_) fun _ _ q => q
  obtain ⟨⟨h', tk, rfl, hk, _⟩, hr⟩ := h
  cases hr
  exact ⟨.inl ⟨_, .bool true, [], rfl, fun _ => rfl, .bool true, post_true _ _ _, fun _ => ⟨List.nodup_nil, fun _ h => nomatch h⟩⟩, .of_keep hk, rfl, .of_eq hg⟩)
theorem join2 : PySem.Challenge.rw_ti0039_02.Holds := join2' fun ns h => plain2 0 ns h
end Mine
end

theorem PySem.Challenge.cw_ti0039_02_holds : PySem.Challenge.rw_ti0039_02.Holds :=
  Mine.join2
