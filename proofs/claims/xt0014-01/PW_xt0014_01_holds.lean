import PyProof.Rows.All
import PyProof.StrWalks
import PyProof.NsMap
import PyProof.WalksMore
import PyProof.Rows.TupMore
import Wide.BytesFacts
import OpenK.KMake
import Open.Line
import KE.KBytesCut
import KE.KCallOwn
import KE.KOpsOwn
import KE.KxPercent
import KE.KxPercentT
import OpenK.AllK
import Wide.All
import PySem.Challenge.RW_xt0014_01
set_option Elab.async false
namespace Mine
section
open PySem
set_option backward.match.sparseCases false
set_option bootstrap.genMatcherCode false
-- MD
inductive D where
  | none | bool (b : Bool) | int (i : Int) | str (s : List Nat) | bytes (b : List Nat)
  | tuple (l : List D) | list (l : List D)
set_option genSizeOfSpec false
noncomputable def D.none? : D → Bool
  | .none => true
  | _ => false
noncomputable def D.bool? : D → Option Bool
  | .bool a => some a
  | _ => Option.none
noncomputable def D.int? : D → Option Int
  | .int a => some a
  | _ => Option.none
noncomputable def D.str? : D → Option (List Nat)
  | .str a => some a
  | _ => Option.none
noncomputable def D.bytes? : D → Option (List Nat)
  | .bytes a => some a
  | _ => Option.none
noncomputable def D.tup? : D → Option (List D)
  | .tuple a => some a
  | _ => Option.none
noncomputable def D.lst? : D → Option (List D)
  | .list a => some a
  | _ => Option.none
mutual
noncomputable def D.beq : D → D → Bool
  | .none, e => e.none?
  | .bool a, e => e.bool?.any (a == ·)
  | .int a, e => e.int?.any (a == ·)
  | .str a, e => e.str?.any (a == ·)
  | .bytes a, e => e.bytes?.any (a == ·)
  | .tuple a, e => e.tup?.any (D.beqs a)
  | .list a, e => e.lst?.any (D.beqs a)
noncomputable def D.beqs : List D → List D → Bool
  | [], b => b.isEmpty
  | a :: r, b => match b with
    | [] => false
    | b :: t => D.beq a b && D.beqs r t
end
mutual
noncomputable def D.eqOk : D → D → Nat → Bool
  | .none, e, _ => e.none?
  | .bool _, _, _ => false
  | .int _, e, _ => e.int?.isSome
  | .str _, e, _ => e.str?.isSome
  | .bytes _, e, _ => e.bytes?.isSome
  | .tuple a, e, n => n != 0 && e.tup?.any fun b => D.eqOks a b (n - 1)
  | .list a, e, n => n != 0 && e.lst?.any fun b => D.eqOks a b (n - 1)
noncomputable def D.eqOks : List D → List D → Nat → Bool
  | [], _, _ => true
  | a :: r, b, n => match b with
    | [] => true
    | b :: t => D.eqOk a b n && D.eqOks r t n
end
inductive V where
  | p (d : D) | own (i : Nat) | hdr (i : Nat) | pat (k : Nat) | mat (b : List Nat) | typ (s : String) | rng (a c : Int) (n : Nat) | any
noncomputable def V.d? : V → Option D
  | .p d => some d
  | _ => none
noncomputable def V.own? : V → Option Nat
  | .own i => some i
  | _ => none
noncomputable def V.hdr? : V → Option Nat
  | .hdr i => some i
  | _ => none
noncomputable def V.typ? : V → Option String
  | .typ i => some i
  | _ => none
noncomputable abbrev V.bool? (x : V) : Option Bool := x.d?.bind D.bool?
noncomputable abbrev V.int? (x : V) : Option Int := x.d?.bind D.int?
noncomputable abbrev V.str? (x : V) : Option (List Nat) := x.d?.bind D.str?
noncomputable abbrev V.bytes? (x : V) : Option (List Nat) := x.d?.bind D.bytes?
noncomputable abbrev V.tup? (x : V) : Option (List D) := x.d?.bind D.tup?
noncomputable abbrev V.lst? (x : V) : Option (List D) := x.d?.bind D.lst?
noncomputable abbrev V.none? (x : V) : Option Unit := x.d?.bind fun d => cond d.none? (some ()) none
noncomputable def one? {α : Type} : List α → Option α
  | [] => none
  | x :: r => match r with
    | [] => some x
    | _ :: _ => none
noncomputable def two? {α : Type} : List α → Option (α × α)
  | [] => none
  | x :: r => (one? r).map fun y => (x, y)
noncomputable abbrev both {α β : Type} (f : V → Option α) (x y : V) (k : α → α → Option β) : Option β := (f x).bind fun a => (f y).bind (k a)
abbrev Rho := List (Str × V)
abbrev Sto := List (List D)
abbrev Sc := List (Str × NameKind)
noncomputable def rset : Rho → Str → V → Rho
  | [], x, v => [(x, v)]
  | (y, u) :: r, x, v => if x == y then (y, v) :: r else (y, u) :: rset r x v
inductive Fl where
  | next | brk | ret (v : V)
structure Ctx where
  fn : Str → Option (Sto → List V → Option V)
  eff : Str → Option (Sto → List V → Option (V × Sto))
  meth : Str → Option (Sto → List V → Option V)
  hset : Sto → Nat → D → D → Option Sto
  hdel : Sto → Nat → D → Option Sto
  glob : Str → Option V
noncomputable def lim : Nat := 16777216
noncomputable def truthD : D → Option Bool
  | .none => some false
  | .bool b => some b
  | .int i => some (!(i == 0))
  | .str s => if decide (s.length ≤ lim) then some (!s.isEmpty) else none
  | .list l => if decide (l.length ≤ lim) then some (!l.isEmpty) else none
  | _ => none
noncomputable def truth (σ : Sto) : V → Option Bool
  | .p d => truthD d
  | .own i => (σ[i]?).bind fun l => if decide (l.length ≤ lim) then some (!l.isEmpty) else none
  | .mat _ => some true
  | _ => none
noncomputable def lst? (σ : Sto) : V → Option (List D)
  | .p d => d.lst?
  | .own i => σ[i]?
  | _ => none
noncomputable def itemsD : D → Option (List D)
  | .list l => some l
  | .tuple l => some l
  | .str s => some (s.map fun c => .str [c])
  | .bytes b => some (b.map fun c => .int (Int.ofNat c))
  | _ => none
noncomputable def items? (σ : Sto) : V → Option (List D)
  | .p d => itemsD d
  | .own i => σ[i]?
  | .rng a c n => some ((List.range n).map fun k => .int (a + Int.ofNat k * c))
  | _ => none
noncomputable def small (a : Int) : Bool := decide (-9223372036854775808 < a) && decide (a < 9223372036854775808)
noncomputable def twoS : List Nat := [37, 115, 58, 32, 37, 115]
noncomputable def strs2? (l : List D) : Option (List Nat × List Nat) := (two? l).bind fun z => z.1.str?.bind fun a => z.2.str?.map fun b => (a, b)
noncomputable def binop (σ : Sto) (op : Operator) (x y : V) : Option V :=
  match op with
  | .Add => (both V.int? x y fun a b => some (.p (.int (a + b)))).or ((both V.str? x y fun a b => if decide (a.length + b.length ≤ lim) then some (.p (.str (a ++ b))) else none).or
      ((both V.bytes? x y fun a b => if decide (a.length + b.length ≤ lim) then some (.p (.bytes (a ++ b))) else none).or
      (both (lst? σ) x y fun a b => if decide (a.length + b.length ≤ lim) then some (.p (.list (a ++ b))) else none)))
  | .Sub => both V.int? x y fun a b => some (.p (.int (a - b)))
  | .Mult => (both V.int? x y fun a b => if small a then some (.p (.int (a * b))) else none).or
      (x.lst?.bind fun l => y.int?.bind fun n => if decide (0 ≤ n) && decide (n ≤ 100) && decide (l.length ≤ 100) then some (.p (.list (List.replicate n.toNat l).flatten)) else none)
  | .FloorDiv => both V.int? x y fun a b => if decide (0 < b) && small b then some (.p (.int (a.fdiv b))) else none
  | .Mod => (both V.int? x y fun a b => if decide (0 < b) && small b then some (.p (.int (a.fmod b))) else none).or
      (x.str?.bind fun f => y.tup?.bind fun l => (strs2? l).bind fun z => if f == twoS && decide (z.1.length ≤ 400000) && decide (z.2.length ≤ 400000) then some (.p (.str (z.1 ++ [58, 32] ++ z.2))) else none)
  | .Pow => both V.int? x y fun a n => if decide (2 ≤ a) && decide (a ≤ 8) && decide (0 ≤ n) && decide (n ≤ 64) then some (.p (.int (a ^ n.toNat))) else none
  | .BitAnd => both V.int? x y fun a b => some (.p (.int (Builtin.bitAnd a b)))
  | .BitOr => both V.int? x y fun a b => some (.p (.int (Builtin.bitOr a b)))
  | .LShift => both V.int? x y fun a n => if decide (0 ≤ n) && decide (n ≤ 64) && small a then some (.p (.int (a * 2 ^ n.toNat))) else none
  | _ => none
noncomputable def idx (i : Int) (n : Nat) : Option Nat :=
  if decide (0 ≤ i) then (if decide (i < n) then some i.toNat else none)
  else if decide (0 ≤ i + n) then some (i + n).toNat else none
noncomputable def item (σ : Sto) (x : V) (i : Int) : Option V :=
  if small i then
    (x.str?.bind fun s => (idx i s.length).bind fun k => (s[k]?).map fun c => .p (.str [c])).or
    ((x.tup?.bind fun l => (idx i l.length).bind fun k => (l[k]?).map .p).or
    ((lst? σ x).bind fun l => (idx i l.length).bind fun k => (l[k]?).map .p))
  else none
noncomputable def pick {α : Type} (l : List α) (lo hi st : Option Int) : List α :=
  let (a, b, c) := sliceBounds lo hi st l.length
  (sliceRange a b c).filterMap fun k => l[k]?
noncomputable def part? (x : V) : Option (Option Int) := (x.none?.map fun _ => none).or (x.int?.bind fun i => if small i then some (some i) else none)
noncomputable def sliced (σ : Sto) (x : V) (lo hi st : Option Int) : Option V :=
  (x.bytes?.bind fun b => if st == none && decide (b.length ≤ lim) then some (.p (.bytes (pick b lo hi none))) else none).or
  ((x.tup?.bind fun l => if lo == some 1 && hi == none && st == none && decide (l.length ≤ lim) then some (.p (.tuple (l.drop 1))) else none).or
  ((lst? σ x).bind fun l => if !(st == some 0) && decide (l.length ≤ lim) then some (.p (.list (pick l lo hi st))) else none))
noncomputable def lower1 (s : List Nat) : Option (List Nat) := (one? s).bind fun c =>
  if 65 ≤ c && c ≤ 90 then some [c + 32] else if c == 192 then some [224] else if (97 ≤ c && c ≤ 122) || c == 224 then some [c] else none
noncomputable def strs? : List D → Option (List (List Nat))
  | [] => some []
  | d :: r => d.str?.bind fun s => (strs? r).map (s :: ·)
noncomputable def joinL (sep : List Nat) : List (List Nat) → List Nat
  | [] => []
  | x :: r => match r with
    | [] => x
    | _ :: _ => x ++ sep ++ joinL sep r
noncomputable def isWs (c : Nat) : Bool := (9 ≤ c && c ≤ 13) || c == 32
noncomputable def splitWs : Nat → List Nat → List (List Nat)
  | 0, _ => []
  | n + 1, t => match t.dropWhile isWs with
    | [] => []
    | c :: r => (c :: r).takeWhile (!isWs ·) :: splitWs n ((c :: r).dropWhile (!isWs ·))
noncomputable def latin : List Nat := [105, 115, 111, 45, 56, 56, 53, 57, 45, 49]
noncomputable def flagsName : List Nat := [102, 108, 97, 103, 115]
noncomputable def flagsAt (l : List Nat) : Option (List Nat) := if [70, 76, 65, 71, 83, 32, 40].isPrefixOf l && (l.drop 7).contains 41 then some ((l.drop 7).takeWhile (· != 41)) else none
noncomputable def flagsIn : List Nat → Option (List Nat)
  | [] => none
  | c :: r => (if c == 10 then none else flagsIn r).or (flagsAt (c :: r))
noncomputable def bad (k : Nat) (c : Nat) : Bool := if k == 1 then c ≤ 31 || c == 127 else c ≤ 8 || (10 ≤ c && c ≤ 31) || c == 127
noncomputable def methStr (σ : Sto) (m : Str) (s : List Nat) : List V → Option V
  | [] => if m == "lower" then (lower1 s).map fun t => .p (.str t) else none
  | x :: r => (if r.isEmpty && m == "join" then (lst? σ x).bind fun l => (strs? l).bind fun ss => if decide ((ss.map List.length).sum + ss.length * s.length ≤ lim) then some (.p (.str (joinL s ss))) else none else none).or
    (if r.isEmpty && m == "encode" then x.str?.bind fun c => if c == latin && s.all (· < 256) && decide (s.length ≤ lim) then some (.p (.bytes s)) else none else none)
noncomputable def methPat (m : Str) (k : Nat) (x : V) : Option V :=
  (x.bytes?.bind fun b => if k == 0 && m == "match" && decide (b.length ≤ lim) then some (((flagsIn b).map V.mat).getD (.p .none)) else none).or
  (x.str?.bind fun s => if (k == 1 || k == 2) && m == "search" && !s.any (bad k) && decide (s.length ≤ lim) then some (.p .none) else none)
noncomputable def methV (C : Ctx) (σ : Sto) (m : Str) (self : V) (args : List V) : Option V :=
  match self with
  | .hdr i => (C.meth m).bind fun f => f σ (.hdr i :: args)
  | .p d => (d.str?.bind fun s => methStr σ m s args).or
      (d.bytes?.bind fun b => if args.isEmpty && m == "split" && decide (b.length < lim) then some (.p (.list ((splitWs (b.length + 1) b).map .bytes))) else none)
  | .pat k => (one? args).bind (methPat m k)
  | .mat g => (one? args).bind fun x => x.str?.bind fun n => if m == "group" && n == flagsName then some (.p (.bytes g)) else none
  | _ => none
noncomputable def eqOp (σ : Sto) (ne : Bool) (x y : V) : Option Bool :=
  (both V.bytes? x y fun a b => some ((a == b) != ne)).or ((both V.str? x y fun a b => some ((a == b) != ne)).or ((both V.int? x y fun a b => some ((a == b) != ne)).or
  ((both V.tup? x y fun a b => if D.eqOks a b 9 then some (D.beqs a b != ne) else none).or
  (both (lst? σ) x y fun a b => if D.eqOks a b 9 then some (D.beqs a b != ne) else none))))
noncomputable def isInt (d : D) : Bool := d.int?.isSome
noncomputable def inOp (C : Ctx) (σ : Sto) (ne : Bool) (x y : V) : Option Bool :=
  (y.hdr?.bind fun i => x.d?.bind fun d => (C.meth "__contains__").bind fun f => (f σ [.hdr i, .p d]).bind fun r => r.bool?.map (· != ne)).or
  (x.int?.bind fun a => (lst? σ y).bind fun l => if l.all isInt then some ((l.any fun d => D.beq d (.int a)) != ne) else none)
noncomputable def isOp (ne : Bool) (x y : V) : Option Bool :=
  (y.none?.bind fun _ => (x.none?.map fun _ => !ne).or ((x.str?.map fun _ => ne).or (x.own?.map fun _ => ne))).or
  ((both V.bool? x y fun a b => some ((a == b) != ne)).or (both V.typ? x y fun a b => some ((a == b) != ne)))
noncomputable def cmpOp (C : Ctx) (σ : Sto) (op : CmpOp) (x y : V) : Option Bool :=
  match op with
  | .Eq => eqOp σ false x y
  | .NotEq => eqOp σ true x y
  | .Lt => both V.int? x y fun a b => some (decide (a < b))
  | .LtE => both V.int? x y fun a b => some (decide (a ≤ b))
  | .Gt => both V.int? x y fun a b => some (decide (b < a))
  | .GtE => both V.int? x y fun a b => some (decide (b ≤ a))
  | .In => inOp C σ false x y
  | .NotIn => inOp C σ true x y
  | .Is => isOp false x y
  | .IsNot => isOp true x y
noncomputable def subV (C : Ctx) (σ : Sto) (x i : V) : Option V :=
  (x.hdr?.bind fun k => i.d?.bind fun d => (C.meth "__getitem__").bind fun f => f σ [.hdr k, .p d]).or (i.int?.bind (item σ x))
noncomputable def nm? : Expr → Option Str
  | .Name x _ => some x
  | _ => none
noncomputable def call? : Expr → Option (Expr × List Expr × List Keyword × Pos)
  | .Call f a k p => some (f, a, k, p)
  | _ => none
noncomputable def attr? : Expr → Option (Expr × Str × Pos)
  | .Attribute o m p => some (o, m, p)
  | _ => none
noncomputable def slice? : Expr → Option (Option Expr × Option Expr × Option Expr)
  | .Slice a b c _ => some (a, b, c)
  | _ => none
noncomputable def sub? : Expr → Option (Expr × Expr)
  | .Subscript o i _ => some (o, i)
  | _ => none
noncomputable def star? : Expr → Bool
  | .Starred _ _ => true
  | _ => false
noncomputable def bindN : List Expr → List D → Rho → Option Rho
  | [], ds, ρ => cond ds.isEmpty (some ρ) none
  | e :: r, ds, ρ => match ds with
    | [] => none
    | d :: ds => (nm? e).bind fun x => bindN r ds (rset ρ x (.p d))
noncomputable def bindT (t : Expr) (d : V) (ρ : Rho) : Option Rho :=
  match t with
  | .Name x _ => some (rset ρ x d)
  | .Tuple es _ _ => (d.tup?.or d.lst?).bind fun l => bindN es l ρ
  | _ => none
structure Rec where
  e : Sc → Rho → Sto → Expr → Option V
  t : Sc → Rho → Sto → Expr → Option Bool
noncomputable def evs (f : Expr → Option V) : List Expr → Option (List V)
  | [] => some []
  | e :: r => cond (star? e) none ((f e).bind fun d => (evs f r).map (d :: ·))
noncomputable def pures : List V → Option (List D)
  | [] => some []
  | v :: r => v.d?.bind fun d => (pures r).map (d :: ·)
noncomputable def kwAll (f : Expr → Option V) : List Keyword → Option (List V)
  | [] => some []
  | k :: r => k.arg.bind fun n => if n == ("name" : Str) && r.isEmpty then (f k.value).map fun d => [d] else none
noncomputable def ifsAll (t : Expr → Option Bool) : List Expr → Option Bool
  | [] => some true
  | e :: r => (t e).bind fun b => cond b (ifsAll t r) (some false)
noncomputable def compGo (R : Rec) (sc : Sc) (σ : Sto) (target elt : Expr) (ifs : List Expr) (ρ : Rho) : List D → Option (List D)
  | [] => some []
  | d :: r => (bindT target (.p d) ρ).bind fun ρ' => (ifsAll (R.t sc ρ' σ) ifs).bind fun b =>
      cond b ((R.e sc ρ' σ elt).bind fun v => v.d?.bind fun y => (compGo R sc σ target elt ifs ρ r).map (y :: ·)) (compGo R sc σ target elt ifs ρ r)
noncomputable def freeOf (sc : Sc) (ρ : Rho) : Rho := ρ.filter fun x => sc.lookup x.1 == some .free
noncomputable def closOk (scope : Scope) (sc : Sc) (ρ : Rho) : Bool :=
  scope.names.all fun x => if x.2 == .free then (!(x.1 == ("__debug__" : Str)) && (ρ.lookup x.1).isSome && (sc.lookup x.1 == some .cell || sc.lookup x.1 == some .free)) else true
noncomputable def targetNames : Expr → List Str
  | .Name x _ => [x]
  | .Tuple es _ _ => es.filterMap nm?
  | _ => []
noncomputable def canStore (sc : Sc) (x : Str) : Bool := (sc.lookup x == some .local || sc.lookup x == some .cell) && !(x == ("__classdict__" : Str))
noncomputable def scopeOk (scope : Scope) (target : Expr) : Bool :=
  scope.kind == .function && (targetNames target).all (canStore scope.names) &&
  scope.names.all (fun x => !(x.2 == .local) || scope.names.lookup x.1 == some .local) && decide ((scope.names.map (·.1)).Nodup)
noncomputable def boolV (R : Sto → Expr → Option V) (σ : Sto) (isAnd : Bool) : List Expr → Option V
  | [] => none
  | e :: r => (R σ e).bind fun v => cond r.isEmpty (some v) ((truth σ v).bind fun b => cond (b == isAnd) (boolV R σ isAnd r) (some v))
noncomputable def notSuper (e : Expr) : Bool := !((call? e).any fun z => nm? z.1 == some ("super" : Str) && (z.2.1.isEmpty && z.2.2.1.isEmpty))
noncomputable def const? : Const → Option V
  | .none => some (.p .none)
  | .bool b => some (.p (.bool b))
  | .int i => some (.p (.int i))
  | .str s => some (.p (.str s.cps.toList))
  | .bytes b => some (.p (.bytes (b.map (·.toNat))))
  | _ => none
noncomputable def nameV (C : Ctx) (sc : Sc) (ρ : Rho) (x : Str) : Option V := if x == ("__debug__" : Str) then some (.p (.bool true)) else
  (ρ.lookup x).or (if (ρ.lookup x).isNone && sc.lookup x == some .globalImplicit then C.glob x else none)
noncomputable def isAnd : BoolOp → Bool
  | .And => true
  | .Or => false
noncomputable def isNot : UnaryOp → Bool
  | .Not => true
  | _ => false
noncomputable def unV (σ : Sto) (op : UnaryOp) (v : V) : Option V := match op with
  | .Not => (truth σ v).map fun b => .p (.bool (!b))
  | .USub => v.int?.map fun i => .p (.int (-i))
  | .Invert => v.int?.map fun i => .p (.int (Builtin.bitNot i))
  | .UAdd => none
noncomputable def isGlob (sc : Sc) (ρ : Rho) (f : Str) : Bool := (ρ.lookup f).isNone && (sc.lookup f == some .globalImplicit && !(f == ("__debug__" : Str)))
noncomputable def callV (C : Ctx) (R : Rec) (sc : Sc) (ρ : Rho) (σ : Sto) (f : Str) (args : List Expr) : Option V :=
  (C.fn f).bind fun g => if isGlob sc ρ f then (evs (R.e sc ρ σ) args).bind (g σ) else none
noncomputable def cvtN : Str := "_convert_string_type"
noncomputable def callM (C : Ctx) (R : Rec) (sc : Sc) (ρ : Rho) (σ : Sto) (o : Expr) (m : Str) (args : List Expr) (kws : List Keyword) (c : Bool) : Option V :=
  if notSuper o && decide (args.length < 20) && c then (R.e sc ρ σ o).bind fun self => (evs (R.e sc ρ σ) args).bind fun vs =>
    (if kws.isEmpty && !(m == cvtN) then methV C σ m self vs else none).or
    (if !kws.isEmpty && m == cvtN then self.hdr?.bind fun i => (kwAll (R.e sc ρ σ) kws).bind fun ks => methV C σ m (.hdr i) (vs ++ ks) else none)
  else none
noncomputable def optV (R : Rec) (sc : Sc) (ρ : Rho) (σ : Sto) : Option Expr → Option V
  | none => some (.p .none)
  | some e => R.e sc ρ σ e
noncomputable def sliceV (R : Rec) (sc : Sc) (ρ : Rho) (σ : Sto) (x : Expr) (z : Option Expr × Option Expr × Option Expr) : Option V :=
  (R.e sc ρ σ x).bind fun v => (optV R sc ρ σ z.1).bind fun a => (optV R sc ρ σ z.2.1).bind fun b => (optV R sc ρ σ z.2.2).bind fun c =>
    (part? a).bind fun a => (part? b).bind fun b => (part? c).bind fun c => sliced σ v a b c
noncomputable def compV (R : Rec) (sc : Sc) (ρ : Rho) (σ : Sto) (elt : Expr) (g : Comprehension) (scope : Scope) : Option V :=
  if g.is_async == 0 then (R.e sc ρ σ g.iter).bind fun v => (items? σ v).bind fun l =>
    if closOk scope sc ρ && scopeOk scope g.target && decide (l.length ≤ lim) then
      (compGo R scope.names σ g.target elt g.ifs (freeOf scope.names ρ) l).map fun ds => .p (.list ds)
    else none
  else none
noncomputable def stepE (C : Ctx) (R : Rec) (sc : Sc) (ρ : Rho) (σ : Sto) : Expr → Option V
  | .Constant c _ _ => const? c
  | .Name x _ => nameV C sc ρ x
  | .BoolOp op vs _ => boolV (fun σ e => R.e sc ρ σ e) σ (isAnd op) vs
  | .BinOp l op r _ => (R.e sc ρ σ l).bind fun x => (R.e sc ρ σ r).bind fun y => binop σ op x y
  | .UnaryOp op x _ => (R.e sc ρ σ x).bind (unV σ op)
  | .IfExp t b o _ => (R.t sc ρ σ t).bind fun c => cond c (R.e sc ρ σ b) (R.e sc ρ σ o)
  | .Compare l ops rs _ => (one? ops).bind fun op => (one? rs).bind fun r => (R.e sc ρ σ l).bind fun x => (R.e sc ρ σ r).bind fun y => (cmpOp C σ op x y).map fun b => .p (.bool b)
  | .Call f args kws cp => (if kws.isEmpty then (nm? f).bind fun x => callV C R sc ρ σ x args else none).or
      ((attr? f).bind fun z => callM C R sc ρ σ z.1 z.2.1 args kws (z.2.2.endLine == cp.line))
  | .Attribute o a _ => if notSuper o && a == ("_headers" : Str) then (R.e sc ρ σ o).bind fun v => v.hdr?.map .own else none
  | .Subscript x i _ => ((slice? i).bind (sliceV R sc ρ σ x)).or (if (slice? i).isNone then (R.e sc ρ σ x).bind fun v => (R.e sc ρ σ i).bind (subV C σ v) else none)
  | .List es _ => if decide (es.length ≤ 1000) then (evs (R.e sc ρ σ) es).bind fun vs => (pures vs).map fun ds => .p (.list ds) else none
  | .Tuple es _ _ => if decide (es.length ≤ 1000) then (evs (R.e sc ρ σ) es).bind fun vs => (pures vs).map fun ds => .p (.tuple ds) else none
  | .ListComp elt gens scope _ => (one? gens).bind fun g => compV R sc ρ σ elt g scope
  | _ => none
noncomputable def allT (R : Expr → Option Bool) (isAnd : Bool) : List Expr → Option Bool
  | [] => some isAnd
  | e :: r => (R e).bind fun b => cond (b == isAnd) (allT R isAnd r) (some b)
noncomputable def stepT (C : Ctx) (R : Rec) (sc : Sc) (ρ : Rho) (σ : Sto) : Expr → Option Bool
  | .UnaryOp op x p => cond (isNot op) ((R.t sc ρ σ x).map (!·)) ((R.e sc ρ σ (.UnaryOp op x p)).bind (truth σ))
  | .BoolOp op vs _ => allT (R.t sc ρ σ) (isAnd op) vs
  | .IfExp t b o _ => (R.t sc ρ σ t).bind fun c => cond c (R.t sc ρ σ b) (R.t sc ρ σ o)
  | .Compare l ops rs _ => (one? ops).bind fun op => (one? rs).bind fun r => (R.e sc ρ σ l).bind fun x => (R.e sc ρ σ r).bind fun y => cmpOp C σ op x y
  | e => (R.e sc ρ σ e).bind (truth σ)
noncomputable def ev (C : Ctx) : Nat → Rec
  | 0 => ⟨fun _ _ _ _ => none, fun _ _ _ _ => none⟩
  | n + 1 => ⟨stepE C (ev C n), stepT C (ev C n)⟩
noncomputable def effOf (C : Ctx) (b : Nat) (sc : Sc) (ρ : Rho) (e : Expr) : Option ((Sto → List V → Option (V × Sto)) × List Expr) :=
  (call? e).bind fun z => (nm? z.1).bind fun f => (C.eff f).bind fun g => if z.2.2.1.isEmpty && (isGlob sc ρ f && b == 0) then some (g, z.2.1) else none
noncomputable def evA (C : Ctx) (R : Rec) (b : Nat) (sc : Sc) (ρ : Rho) (σ : Sto) (e : Expr) : Option (V × Sto) :=
  match effOf C b sc ρ e with
  | some z => (evs (R.e sc ρ σ) z.2).bind (z.1 σ)
  | none => (R.e sc ρ σ e).map fun v => (v, σ)
noncomputable def put (σ : Sto) (b i : Nat) (f : List D → Option (List D)) : Option Sto :=
  if decide (b ≤ i) then (σ[i]?).bind fun l => (f l).map fun l' => σ.set i l' else none
noncomputable def isFresh : Expr → Bool
  | .List .. => true
  | .ListComp .. => true
  | .Subscript _ i _ => (slice? i).isSome
  | _ => false
noncomputable def assignAll (R : Rec) (sc : Sc) (b : Nat) (ρ : Rho) (σ : Sto) (v : V) (o : Expr) : Option (Rho × Sto) :=
  (R.e sc ρ σ o).bind fun ov => ov.own?.bind fun i => v.lst?.bind fun l => if decide (l.length ≤ 1000) then (put σ b i fun l0 => if decide (l0.length ≤ 1000) then some l else none).map fun σ' => (ρ, σ') else none
noncomputable def assignIdx (C : Ctx) (R : Rec) (sc : Sc) (b : Nat) (ρ : Rho) (σ : Sto) (v : V) (o i : Expr) : Option (Rho × Sto) :=
  v.d?.bind fun d => (R.e sc ρ σ o).bind fun ov => (R.e sc ρ σ i).bind fun iv =>
    (ov.own?.bind fun k => iv.int?.bind fun j => if small j && decide (0 ≤ j) then (put σ b k fun l => if decide (j < l.length) then some (l.set j.toNat d) else none).map fun σ' => (ρ, σ') else none).or
    (ov.hdr?.bind fun k => iv.d?.bind fun i => if b == 0 then (C.hset σ k i d).map fun σ' => (ρ, σ') else none)
noncomputable def fullSlice (i : Expr) : Bool := (slice? i).any fun z => z.1.isNone && z.2.1.isNone && z.2.2.isNone
noncomputable def assignTo (C : Ctx) (R : Rec) (sc : Sc) (b : Nat) (ρ : Rho) (σ : Sto) (v : V) : Expr → Option (Rho × Sto)
  | .Name x _ => if canStore sc x then some (rset ρ x v, σ) else none
  | .Tuple es k q => if (targetNames (.Tuple es k q)).all (canStore sc) then (bindT (.Tuple es k q) v ρ).map fun ρ' => (ρ', σ) else none
  | .Subscript o i _ => cond (fullSlice i) (assignAll R sc b ρ σ v o) (if (slice? i).isNone then assignIdx C R sc b ρ σ v o i else none)
  | _ => none
noncomputable def bodyK (W : Rho → Sto → Option (Fl × Rho × Sto)) (y : Fl × Rho × Sto) : Option (Fl × Rho × Sto) := match y.1 with
  | .next => W y.2.1 y.2.2
  | .brk => some (.brk, y.2)
  | .ret v => some (.ret v, y.2)
noncomputable def body (S : Rho → Sto → Stmt → Option (Fl × Rho × Sto)) : List Stmt → Rho → Sto → Option (Fl × Rho × Sto)
  | [], ρ, σ => some (.next, ρ, σ)
  | s :: r, ρ, σ => (S ρ σ s).bind (bodyK (body S r))
noncomputable def loopK (W : Rho → Sto → Option (Fl × Rho × Sto)) (y : Fl × Rho × Sto) : Option (Fl × Rho × Sto) := match y.1 with
  | .next => W y.2.1 y.2.2
  | .brk => some (.next, y.2)
  | .ret v => some (.ret v, y.2)
noncomputable def forGo (run : Rho → Sto → Option (Fl × Rho × Sto)) (bind : D → Rho → Option Rho) : List D → Rho → Sto → Option (Fl × Rho × Sto)
  | [], ρ, σ => some (.next, ρ, σ)
  | d :: r, ρ, σ => (bind d ρ).bind fun ρ' => (run ρ' σ).bind (loopK (forGo run bind r))
noncomputable def whileGo (test : Rho → Sto → Option Bool) (run : Rho → Sto → Option (Fl × Rho × Sto)) : Nat → Rho → Sto → Option (Fl × Rho × Sto)
  | 0, _, _ => none
  | n + 1, ρ, σ => (test ρ σ).bind fun c => cond c ((run ρ σ).bind (loopK (whileGo test run n))) (some (.next, ρ, σ))
noncomputable def frozen (σ : Sto) (b : Nat) : V → V
  | .own i => if b ≤ i then ((σ[i]?).map fun l => V.p (.list l)).getD .any else .own i
  | .hdr i => if b ≤ i then .any else .hdr i
  | v => v
noncomputable def still (b : Nat) : V → Bool
  | .own i => decide (i < b)
  | _ => true
noncomputable def isDisplay : Expr → Bool
  | .Tuple .. => true
  | .List .. => true
  | _ => false
noncomputable def stepA (C : Ctx) (R : Rec) (mu : List Str) (b : Nat) (sc : Sc) (ρ : Rho) (σ : Sto) (value t : Expr) : Option (Fl × Rho × Sto) :=
  match nm? t with
  | some x => cond (mu.contains x)
      (if isFresh value && canStore sc x then (R.e sc ρ σ value).bind fun v => v.lst?.map fun l => (.next, rset ρ x (.own σ.length), σ ++ [l]) else none)
      (if canStore sc x then (evA C R b sc ρ σ value).map fun z => (.next, rset ρ x z.1, z.2) else none)
  | none => if !isDisplay value then (evA C R b sc ρ σ value).bind fun z => (assignTo C R sc b ρ z.2 z.1 t).map fun y => (.next, y.1, y.2) else none
noncomputable def augOk : Operator → Bool
  | .BitAnd => true
  | .BitOr => true
  | .LShift => true
  | _ => false
noncomputable def appendS (C : Ctx) (R : Rec) (b : Nat) (sc : Sc) (ρ : Rho) (σ : Sto) (o : Expr) (m : Str) (c : Bool) (x : Expr) : Option (Fl × Rho × Sto) :=
  if m == ("append" : Str) && notSuper o && c then (R.e sc ρ σ o).bind fun ov => ov.own?.bind fun i => (evA C R b sc ρ σ x).bind fun z => z.1.d?.bind fun d =>
    (put z.2 b i fun l => if decide (l.length < lim) then some (l ++ [d]) else none).map fun σ'' => (.next, ρ, σ'') else none
noncomputable def exprS (C : Ctx) (R : Rec) (b : Nat) (sc : Sc) (ρ : Rho) (σ : Sto) (e : Expr) : Option (Fl × Rho × Sto) :=
  (call? e).bind fun z => (attr? z.1).bind fun y =>
    cond z.2.2.1.isEmpty ((one? z.2.1).bind (appendS C R b sc ρ σ y.1 y.2.1 (y.2.2.endLine == z.2.2.2.line))) ((R.e sc ρ σ e).map fun _ => (.next, ρ, σ))
noncomputable def augS (R : Rec) (sc : Sc) (ρ : Rho) (σ : Sto) (x : Str) (op : Operator) (value : Expr) : Option (Fl × Rho × Sto) :=
  if canStore sc x && !(x == ("__debug__" : Str)) && augOk op then (ρ.lookup x).bind fun u => u.int?.bind fun a => (R.e sc ρ σ value).bind fun y => y.int?.bind fun c =>
    (binop σ op (.p (.int a)) (.p (.int c))).map fun v => (.next, rset ρ x v, σ) else none
noncomputable def delSt (C : Ctx) (R : Rec) (b : Nat) (sc : Sc) (ρ : Rho) (σ : Sto) (t : Expr) : Option (Fl × Rho × Sto) :=
  (sub? t).bind fun z => (R.e sc ρ σ z.1).bind fun ov => (R.e sc ρ σ z.2).bind fun iv => ov.hdr?.bind fun k => iv.d?.bind fun d => if b == 0 then (C.hdel σ k d).map fun σ' => (.next, ρ, σ') else none
noncomputable def tryS : Fl × Rho × Sto → Option (Fl × Rho × Sto) := fun z => match z.1 with
  | .ret v => some (.ret v, z.2)
  | _ => none
noncomputable def stepS (C : Ctx) (R : Rec) (mu : List Str) (b z : Nat) (S : Sc → Rho → Sto → Stmt → Option (Fl × Rho × Sto)) (sc : Sc) (ρ : Rho) (σ : Sto) : Stmt → Option (Fl × Rho × Sto)
  | .Expr e _ => exprS C R b sc ρ σ e
  | .Assign ts value _ => (one? ts).bind (stepA C R mu b sc ρ σ value)
  | .AugAssign t op value _ => (nm? t).bind fun x => augS R sc ρ σ x op value
  | .Delete ts _ => (one? ts).bind (delSt C R b sc ρ σ)
  | .For t iter bd els _ => if els.isEmpty then (R.e sc ρ σ iter).bind fun v => (items? σ v).bind fun l =>
      if (targetNames t).all (canStore sc) && still b v && decide (l.length ≤ lim) then
          forGo (fun ρ σ => body (S sc) bd ρ σ) (fun d ρ => bindT t (.p d) ρ) l ρ σ
      else none else none
  | .While test bd els _ => if els.isEmpty then whileGo (fun ρ σ => R.t sc ρ σ test) (fun ρ σ => body (S sc) bd ρ σ) 64 ρ σ else none
  | .If test bd orelse _ => (R.t sc ρ σ test).bind fun c => cond c (body (S sc) bd ρ σ) (body (S sc) orelse ρ σ)
  | .Try bd _ _ fin _ => if fin.isEmpty then (body (S sc) bd ρ σ).bind tryS else none
  | .Return e _ => e.bind fun e => (R.e sc (ρ.map fun x => (x.1, frozen σ z x.2)) (σ.take z) e).map fun v => (.ret v, ρ, σ)
  | .Break _ => some (.brk, ρ, σ)
  | _ => none
noncomputable def ex (C : Ctx) (n : Nat) (mu : List Str) (b z : Nat) : Nat → Sc → Rho → Sto → Stmt → Option (Fl × Rho × Sto)
  | 0 => fun _ _ _ _ => none
  | k + 1 => stepS C (ev C n) mu b z (ex C n mu b z k)
structure Fn where
  params : List Str
  bd : List Stmt
  sc : Sc
  mu : List Str
noncomputable def bindP : List Str → List V → Option Rho
  | [], vs => cond vs.isEmpty (some []) none
  | x :: r, vs => match vs with
    | [] => none
    | v :: vs => (bindP r vs).map ((x, v) :: ·)
noncomputable def fuelE : Nat := 24
noncomputable def fuelS : Nat := 8
noncomputable def runOf : Fl × Rho × Sto → Option (V × Sto) := fun z => match z.1 with
  | .ret v => some (v, z.2.2)
  | .next => some (.p .none, z.2.2)
  | .brk => none
noncomputable def runFn (C : Ctx) (f : Fn) (b : Nat) (σ : Sto) (vs : List V) : Option (V × Sto) :=
  (bindP f.params vs).bind fun ρ => (body (ex C fuelE f.mu b σ.length fuelS f.sc) f.bd ρ σ).bind runOf
noncomputable def runP (C : Ctx) (f : Fn) (σ : Sto) (vs : List V) : Option V := (runFn C f σ.length σ vs).map (·.1)
noncomputable def runA (C : Ctx) (f : Fn) (σ : Sto) (vs : List V) : Option (V × Sto) := (runFn C f 0 σ vs).map fun z => (z.1, z.2.take σ.length)
-- MC
abbrev P0 : Program := PySem.Challenge.pw_xt0014_01
noncomputable def fnOfS (mu : List Str) : Stmt → Fn
  | .FunctionDef _ a bd _ _ _ sc _ _ _ => ⟨(a.args ++ a.kwonlyargs).map (·.arg), bd, sc.names, mu⟩
  | _ => ⟨[], [], [], []⟩
noncomputable def stAt (i : Nat) : Stmt := P0.main.body.getD i (.Pass ⟨0, 0, 0, 0⟩)
noncomputable def fnAt (i : Nat) (mu : List Str := []) : Fn := fnOfS mu (stAt i)
noncomputable def clsBody : List Stmt := match stAt 20 with
  | .ClassDef _ _ _ bd _ _ _ _ _ _ _ => bd
  | _ => []
noncomputable def mthAt (i : Nat) (mu : List Str := []) : Fn := fnOfS mu (clsBody.getD i (.Pass ⟨0, 0, 0, 0⟩))
noncomputable def ints? : List D → Option (List Int)
  | [] => some []
  | d :: r => d.int?.bind fun i => (ints? r).map (i :: ·)
noncomputable def tiny (a : Int) : Bool := decide (-1000000 ≤ a) && decide (a ≤ 1000000)
noncomputable def range1 (n : Int) : Option V := if tiny n && decide (0 ≤ n) then some (.rng 0 1 n.toNat) else none
noncomputable def range3 (a b c : Int) : Option V := if tiny a && tiny b && (c == -1 || c == 1) then some (.rng a c (if c == 1 then (b - a).toNat else (a - b).toNat)) else none
noncomputable def intsV? : List V → Option (List Int)
  | [] => some []
  | v :: r => v.int?.bind fun i => (intsV? r).map (i :: ·)
noncomputable def rangeV (vs : List V) : Option V := (intsV? vs).bind fun l => match l with
  | [] => none
  | a :: r => match r with
    | [] => range1 a
    | b :: r => (one? r).bind (range3 a b)
abbrev Pr := Sto → List V → Option V
noncomputable abbrev lenL (l : List D) : Option V := if decide (l.length ≤ lim) then some (.p (.int l.length)) else none
noncomputable def lenV (meth : Str → Option Pr) : Pr := fun σ vs => (one? vs).bind fun x =>
  (x.str?.bind fun s => if decide (s.length ≤ lim) then some (.p (.int s.length)) else none).or
  ((x.hdr?.bind fun i => (meth "__len__").bind fun f => (f σ [.hdr i]).bind fun r => r.int?.bind fun n => if decide (0 ≤ n) && decide (n ≤ 1000000) then some (.p (.int n)) else none).or
  ((x.tup?.bind lenL).or ((lst? σ x).bind lenL)))
noncomputable def sumV : Pr := fun σ vs => (one? vs).bind fun x => (lst? σ x).bind fun l => (ints? l).bind fun is => if decide (l.length ≤ lim) then some (.p (.int is.sum)) else none
noncomputable def chrV : Pr := fun _ vs => (one? vs).bind fun x => x.int?.bind fun i => if decide (0 ≤ i) && decide (i < 55296) then some (.p (.str [i.toNat])) else none
noncomputable def ordV : Pr := fun _ vs => (one? vs).bind fun x => x.str?.bind fun s => (one? s).map fun c => V.p (.int ((c : Nat) : Int))
noncomputable def tupleV : Pr := fun _ vs => (one? vs).bind fun x => x.lst?.bind fun l => if decide (l.length ≤ lim) then some (.p (.tuple l)) else none
noncomputable def bytesV (meth : Str → Option Pr) : Pr := fun σ vs => (one? vs).bind fun x =>
  (x.hdr?.bind fun i => (meth "__bytes__").bind fun f => (f σ [.hdr i]).bind fun r => r.bytes?.map fun b => .p (.bytes b)).or
  ((lst? σ x).bind fun l => (ints? l).bind fun is => if is.all (fun i => decide (0 ≤ i) && decide (i < 256)) && decide (l.length ≤ lim) then some (.p (.bytes (is.map Int.toNat))) else none)
noncomputable def strV (meth : Str → Option Pr) : Pr := fun σ vs => (one? vs).bind fun x => x.hdr?.bind fun i => (meth "__str__").bind fun f => (f σ [.hdr i]).bind fun r => r.str?.map fun b => .p (.str b)
noncomputable def typeV : Pr := fun _ vs => (one? vs).bind fun x => (x.str?.map fun _ => .typ "str").or ((x.bytes?.map fun _ => .typ "bytes").or ((x.lst?.map fun _ => .typ "list").or (x.own?.map fun _ => .typ "list")))
noncomputable def isiV : Pr := fun _ vs => (two? vs).bind fun z => z.1.int?.bind fun _ => z.2.typ?.bind fun t => if t == "int" then some (.p (.bool true)) else none
noncomputable def intV : Pr := fun _ vs => (one? vs).bind fun x => x.int?.map fun i => .p (.int i)
noncomputable def absV : Pr := fun _ vs => (one? vs).bind fun x => x.int?.map fun i => .p (.int (Int.ofNat i.natAbs))
noncomputable def divmodV : Pr := fun _ vs => (two? vs).bind fun z => both V.int? z.1 z.2 fun a b => if decide (0 < b) && small b then some (.p (.tuple [.int (a.fdiv b), .int (a.fmod b)])) else none
noncomputable def globB : Str → Option V := fun x =>
  if x == "bytes" then some (.typ "bytes") else if x == "str" then some (.typ "str") else if x == "list" then some (.typ "list") else if x == "int" then some (.typ "int")
  else if x == "Flags" then some (.pat 0) else if x == "_name_disallowed_re" then some (.pat 1) else if x == "_value_disallowed_re" then some (.pat 2) else none
noncomputable def fnB (meth : Str → Option Pr) : List (Str × Pr) :=
  [("range", fun _ => rangeV), ("len", lenV meth), ("sum", sumV), ("chr", chrV), ("ord", ordV), ("tuple", tupleV), ("bytes", bytesV meth), ("str", strV meth), ("type", typeV), ("isinstance", isiV), ("int", intV), ("abs", absV), ("divmod", divmodV)]
noncomputable def look {α : Type} (l : List (Str × α)) : Str → Option α := fun x => l.lookup x
noncomputable def mk (fn : List (Str × Pr)) (meth : List (Str × Pr)) : Ctx := ⟨look fn, fun _ => none, look meth, fun _ _ _ _ => none, fun _ _ _ => none, globB⟩
noncomputable def noM : Str → Option Pr := fun _ => none
noncomputable def ctx0 : Ctx := mk (fnB noM) []
noncomputable def mCvt : Pr := runP ctx0 (mthAt 1)
noncomputable def mLen : Pr := runP ctx0 (mthAt 2)
noncomputable def mKeys : Pr := runP ctx0 (mthAt 9)
noncomputable def mItems : Pr := runP ctx0 (mthAt 11)
noncomputable def ctx1 : Ctx := mk (fnB noM) [("_convert_string_type", mCvt)]
noncomputable def mGet : Pr := fun σ vs => (two? vs).bind fun z => runP ctx1 (mthAt 8) σ [z.1, z.2, .p .none]
noncomputable def ctx2 : Ctx := mk (fnB noM) [("_convert_string_type", mCvt), ("get", mGet)]
noncomputable def mGetitem : Pr := runP ctx2 (mthAt 5)
noncomputable def mContains : Pr := runP ctx2 (mthAt 6)
noncomputable def mStr : Pr := runP ctx0 (mthAt 13)
noncomputable def ctx3 : Ctx := mk (fnB (look [("__str__", mStr)])) []
noncomputable def mBytes : Pr := runP ctx3 (mthAt 14)
noncomputable def fDel (σ : Sto) (i : Nat) (d : D) : Option Sto := (runA ctx1 (mthAt 4) σ [.hdr i, .p d]).map (·.2)
noncomputable def ctx4 : Ctx := { ctx1 with hdel := fDel }
noncomputable def fSet (σ : Sto) (i : Nat) (d e : D) : Option Sto := (runA ctx4 (mthAt 3) σ [.hdr i, .p d, .p e]).map (·.2)
noncomputable def meths : List (Str × Pr) := [("_convert_string_type", mCvt), ("get", mGet), ("__getitem__", mGetitem), ("__contains__", mContains), ("__str__", mStr), ("__bytes__", mBytes), ("__len__", mLen), ("keys", mKeys), ("items", mItems)]
noncomputable def ctxL : Ctx := { mk (fnB (look meths)) meths with hset := fSet, hdel := fDel }
noncomputable def gInt2AP : Pr := runP ctxL (fnAt 4)
noncomputable def gParse : Pr := runP ctxL (fnAt 5)
noncomputable def gNot : Pr := runP ctxL (fnAt 7)
noncomputable def gInv : Pr := runP ctxL (fnAt 8)
noncomputable def gContains : Pr := runP ctxL (fnAt 9)
noncomputable def aDelitem : Sto → List V → Option (V × Sto) := runA ctxL (fnAt 10)
noncomputable def gGetitem : Pr := runP ctxL (fnAt 11)
noncomputable def aSetitem : Sto → List V → Option (V × Sto) := runA ctxL (fnAt 12)
noncomputable def gHint : Pr := fun σ vs => (one? vs).bind fun o => runP ctxL (fnAt 13) σ [o, .p (.int 0)]
noncomputable def gIand : Pr := runP ctxL (fnAt 14)
noncomputable def gLsh : Pr := runP ctxL (fnAt 15)
noncomputable def gIor : Pr := runP ctxL (fnAt 16)
noncomputable def fn1 : List (Str × Pr) := fnB (look meths) ++ ([("Int2AP", gInt2AP), ("ParseFlags", gParse), ("not_", gNot), ("inv", gInv), ("contains", gContains), ("getitem", gGetitem), ("length_hint", gHint), ("iand", gIand), ("ilshift", gLsh), ("ior", gIor)] : List (Str × Pr))
noncomputable def cA (l : List (Str × Pr)) : Ctx := { ctxL with fn := look l }
noncomputable def gFigures : Pr := runP (cA fn1) (fnAt 22 ["told"])
noncomputable def gName : Pr := runP (cA fn1) (fnAt 23)
noncomputable def gOther : Pr := runP (cA fn1) (fnAt 24)
noncomputable def gText : Pr := runP (cA fn1) (fnAt 25)
noncomputable def fn2 : List (Str × Pr) := fn1 ++ ([("_law_figures", gFigures), ("_law_name", gName), ("_law_other", gOther), ("_law_text", gText)] : List (Str × Pr))
noncomputable def gTold : Pr := runP (cA fn2) (fnAt 26)
noncomputable def gNumber : Pr := runP (cA fn2) (fnAt 27)
noncomputable def gWord : Pr := runP (cA fn2) (fnAt 28)
noncomputable def gSees : Pr := runP (cA fn2) (fnAt 29 ["sees"])
noncomputable def gUp : Pr := runP (cA fn2) (fnAt 30)
noncomputable def gDefs : Pr := runP (cA fn2) (fnAt 31 ["told"])
noncomputable def gWords : Pr := runP (cA fn2) (fnAt 32 ["words"])
noncomputable def fn3 : List (Str × Pr) := fn2 ++ ([("_law_told", gTold), ("_law_number", gNumber), ("_law_word", gWord), ("_law_sees", gSees), ("_law_up", gUp), ("_law_defs", gDefs), ("_law_words", gWords)] : List (Str × Pr))
noncomputable def gDressed : Pr := runP (cA fn3) (fnAt 33)
noncomputable def gDeed : Pr := runP (cA fn3) (fnAt 34)
noncomputable def fn4 : List (Str × Pr) := fn3 ++ ([("_law_dressed", gDressed), ("_law_deed", gDeed)] : List (Str × Pr))
noncomputable def eff4 : List (Str × (Sto → List V → Option (V × Sto))) := [("delitem", aDelitem), ("setitem", aSetitem)]
noncomputable def ctx5 : Ctx := { cA fn4 with eff := look eff4 }
noncomputable def aMachine : Sto → List V → Option (V × Sto) := runA ctx5 (fnAt 35 ["log"])
noncomputable def gLog : Pr := runP (cA fn4) (fnAt 36 ["line", "known", "log"])
noncomputable def gForced : Pr := runP (cA fn4) (fnAt 37)
noncomputable def fn5 : List (Str × Pr) := fn4 ++ ([("_law_log", gLog), ("_law_forced", gForced)] : List (Str × Pr))
noncomputable def gTruths : Pr := runP (cA fn5) (fnAt 38 ["told"])
noncomputable def isNext (z : Fl × Rho × Sto) : Bool := match z.1 with
  | .next => true
  | _ => false
noncomputable def iRun (σ : Sto) (i : Nat) : Bool := (body (ex ctx1 fuelE [] σ.length σ.length fuelS (mthAt 0).sc) ((mthAt 0).bd.drop 3) [("self", .hdr i), ("headers", .own i)] σ).any isNext
noncomputable def headersV : Pr := fun σ vs => (one? vs).bind fun x => x.own?.bind fun i => if iRun σ i then some (.hdr i) else none
noncomputable def fn6 : List (Str × Pr) := fn5 ++ ([("_law_truths", gTruths), ("Headers", headersV)] : List (Str × Pr))
noncomputable def ctx6 : Ctx := { cA fn6 with eff := look (eff4 ++ ([("_law_machine", aMachine)] : List (Str × (Sto → List V → Option (V × Sto))))) }
noncomputable def gLaw : Pr := runP ctx6 (fnAt 39 ["line", "rows", "quiet", "marks", "worlds"])
section
variable {α β γ : Type} {P : Prop}
theorem bd {o : Option α} {f : α → Option β} {x : α} {y : Option β} (h : o = some x) (h2 : f x = y) : o.bind f = y := by rw [h]; exact h2
theorem md {o : Option α} {f : α → β} {x : α} (h : o = some x) : o.map f = some (f x) := by rw [h]; rfl
theorem gd {c : Bool} {o y : Option α} (h : c = true) (h2 : o = y) : (if c = true then o else none) = y := by rw [if_pos h]; exact h2
theorem cdt {c : Bool} {a b y : α} (h : c = true) (h2 : a = y) : cond c a b = y := by rw [h]; exact h2
theorem cdf {c : Bool} {a b y : α} (h : c = false) (h2 : b = y) : cond c a b = y := by rw [h]; exact h2
theorem nn {a : α} (e : (none : Option α) = some a) : P := by contradiction
theorem nf (e : false = true) : P := by contradiction
theorem bk {o : Option α} {f : α → Option β} {y : β} (e : o.bind f = some y) (k : ∀ x, o = some x → f x = some y → P) : P := by
  cases o with
  | none => exact nn e
  | some x => exact k x rfl e
theorem mk' {o : Option α} {f : α → β} {y : β} (e : o.map f = some y) (k : ∀ x, o = some x → f x = y → P) : P := by
  cases o with
  | none => exact nn e
  | some x => exact k x rfl (Option.some.inj e)
theorem gk {c : Bool} {o : Option α} {y : α} (e : (if c = true then o else none) = some y) (k : c = true → o = some y → P) : P := by
  cases c with
  | false => exact nn e
  | true => exact k rfl e
theorem ok {a b : Option α} {y : α} (e : a.or b = some y) (h1 : a = some y → P) (h2 : b = some y → P) : P := by
  cases a with
  | none => exact h2 e
  | some x => exact h1 e
theorem an {a b : Bool} (e : (a && b) = true) : a = true ∧ b = true := by
  cases a with
  | true => exact ⟨rfl, e⟩
  | false => exact nf e
theorem and_mk {a b : Bool} (ha : a = true) (hb : b = true) : (a && b) = true := by rw [ha, hb]; rfl
theorem one_some {l : List α} {x : α} (e : one? l = some x) : l = [x] := by
  cases l with
  | nil => exact nn e
  | cons y r => cases r with
    | nil => exact congrArg (fun z => [z]) (Option.some.inj e)
    | cons _ _ => exact nn e
theorem two_some {l : List α} {z : α × α} (e : two? l = some z) : l = [z.1, z.2] := by
  cases l with
  | nil => exact nn e
  | cons x r => exact mk' e fun y ey e => e ▸ congrArg (x :: ·) (one_some ey)
end
theorem all2 {P : Nat → Prop} (a : P 0) (b : P 1) : ∀ r < 2, P r
  | 0, _ => a
  | 1, _ => b
theorem alln {P : Nat → Prop} {n : Nat} (l : ∀ r < n, P r) (x : P n) : ∀ r < n + 1, P r := fun r h => (Nat.lt_succ_iff_lt_or_eq.mp h).elim (l r) fun e => e ▸ x
theorem all8 {P : Nat → Prop} (a : P 0) (b : P 1) (c : P 2) (d : P 3) (e : P 4) (f : P 5) (g : P 6) (h : P 7) : ∀ r < 8, P r := alln (alln (alln (alln (alln (alln (all2 a b) c) d) e) f) g) h
theorem all16 {P : Nat → Prop} (a : P 0) (b : P 1) (c : P 2) (d : P 3) (e : P 4) (f : P 5) (g : P 6) (h : P 7) (a' : P 8) (b' : P 9) (c' : P 10) (d' : P 11) (e' : P 12) (f' : P 13) (g' : P 14) (h' : P 15) : ∀ r < 16, P r :=
  alln (alln (alln (alln (alln (alln (alln (alln (all8 a b c d e f g h) a') b') c') d') e') f') g') h'
end
section
open PySem PySem.Calls PyProof.Rows PySem.W PySem.SeqAt
set_option autoImplicit false
set_option maxHeartbeats 0
set_option maxRecDepth 100000
-- MH
noncomputable def nameCode : List Nat := [14, 10, 4, 1, 1, 22, 0, 31, 16, 127, 0, 13, 7, 22, 0, 31, 16, 127, 0, 1]
noncomputable def valueCode : List Nat := [14, 14, 4, 1, 1, 9, 4294966783, 0, 0, 2147483648, 0, 0, 0, 0, 0, 13, 11, 9, 4294966783, 0, 0, 2147483648, 0, 0, 0, 0, 0, 1]
noncomputable def flagsCode : List Nat := [14, 4, 0, 8, 4294967295, 24, 5, 0, 4294967295, 2, 1, 16, 70, 16, 76, 16, 65, 16, 71, 16, 83, 16, 32, 16, 40, 17, 0, 24, 6, 0, 4294967295, 20, 41, 1, 17, 1, 16, 41, 1]
noncomputable def nsE (P : Params) (n : String) (t : Tok) (v : Value) : DictEntry := ⟨PyData.keyHash P (Str.ofString n), .str (Str.ofString n) t, v⟩
noncomputable def hdrNs (P : Params) : Obj :=
  { cls := .type "dict", data := .dict #[nsE P "__module__" 512 (.str (Str.ofString "cpy313.wsgiref.headers") 443), nsE P "__firstlineno__" 516 (.int 70 515), nsE P "__init__" 526 (.ref 153),
      nsE P "_convert_string_type" 536 (.ref 160), nsE P "__len__" 543 (.ref 167), nsE P "__setitem__" 552 (.ref 174), nsE P "__delitem__" 558 (.ref 179), nsE P "__getitem__" 566 (.ref 186),
      nsE P "__contains__" 574 (.ref 193), nsE P "get_all" 582 (.ref 200), nsE P "get" 593 (.ref 208), nsE P "keys" 599 (.ref 213), nsE P "values" 605 (.ref 218), nsE P "items" 612 (.ref 225),
      nsE P "__repr__" 619 (.ref 232), nsE P "__str__" 625 (.ref 237), nsE P "__bytes__" 632 (.ref 244), nsE P "setdefault" 641 (.ref 251), nsE P "add_header" 651 (.ref 258),
      nsE P "__static_attributes__" 653 (.ref 259), nsE P "__dict__" 655 (.ref 262), nsE P "__weakref__" 657 (.ref 263), nsE P "__doc__" 658 .none] 4 }
noncomputable def hdrCls : Obj :=
  { cls := .type "type", data := .cls { name := Str.ofString "Headers", bases := [.type "object"], mro := [.ref 261, .type "object"], ns := 260, qualname := Str.ofString "Headers" },
    slots := #[none, none, some (.str (Str.ofString "Headers") 505), some (.str (Str.ofString "Headers") 513), some (.builtin "object.__new__"), some (.bool true)] }
structure FnRow where
  a : Addr
  st : Stmt
  q : Str
  d : Value
  md : Value
noncomputable def FnRow.fd (r : FnRow) : FuncData := match r.st with
  | .FunctionDef n a bd _ _ _ sc _ _ _ => { name := n, qualname := r.q, params := a, body := .stmts bd, scope := sc, globals := 3, closure := [], defaults := r.d, kwdefaults := .none, pyModule := r.md, code := .ref (r.a - 1) }
  | _ => default
noncomputable def FnRow.obj (r : FnRow) : Obj := { cls := .type "function", data := .func r.fd }
noncomputable def fnTab : List FnRow :=
  ([⟨50, stAt 4, "Int2AP", .none, .str "cpy313.imaplib" 289⟩,
    ⟨57, stAt 5, "ParseFlags", .none, .str "cpy313.imaplib" 289⟩,
    ⟨64, stAt 7, "not_", .none, .str "cpy313.operator" 358⟩,
    ⟨71, stAt 8, "inv", .none, .str "cpy313.operator" 358⟩,
    ⟨78, stAt 9, "contains", .none, .str "cpy313.operator" 358⟩,
    ⟨85, stAt 10, "delitem", .none, .str "cpy313.operator" 358⟩,
    ⟨92, stAt 11, "getitem", .none, .str "cpy313.operator" 358⟩,
    ⟨99, stAt 12, "setitem", .none, .str "cpy313.operator" 358⟩,
    ⟨107, stAt 13, "length_hint", .ref 100, .str "cpy313.operator" 358⟩,
    ⟨114, stAt 14, "iand", .none, .str "cpy313.operator" 358⟩,
    ⟨121, stAt 15, "ilshift", .none, .str "cpy313.operator" 358⟩,
    ⟨128, stAt 16, "ior", .none, .str "cpy313.operator" 358⟩] : List FnRow) ++
  ([⟨272, stAt 22, "_law_figures", .none, .str "law_xt0014_01" 661⟩,
    ⟨279, stAt 23, "_law_name", .none, .str "law_xt0014_01" 661⟩,
    ⟨284, stAt 24, "_law_other", .none, .str "law_xt0014_01" 661⟩,
    ⟨289, stAt 25, "_law_text", .none, .str "law_xt0014_01" 661⟩,
    ⟨294, stAt 26, "_law_told", .none, .str "law_xt0014_01" 661⟩,
    ⟨301, stAt 27, "_law_number", .none, .str "law_xt0014_01" 661⟩,
    ⟨306, stAt 28, "_law_word", .none, .str "law_xt0014_01" 661⟩,
    ⟨311, stAt 29, "_law_sees", .none, .str "law_xt0014_01" 661⟩,
    ⟨316, stAt 30, "_law_up", .none, .str "law_xt0014_01" 661⟩,
    ⟨323, stAt 31, "_law_defs", .none, .str "law_xt0014_01" 661⟩,
    ⟨330, stAt 32, "_law_words", .none, .str "law_xt0014_01" 661⟩,
    ⟨337, stAt 33, "_law_dressed", .none, .str "law_xt0014_01" 661⟩,
    ⟨344, stAt 34, "_law_deed", .none, .str "law_xt0014_01" 661⟩,
    ⟨349, stAt 35, "_law_machine", .none, .str "law_xt0014_01" 661⟩,
    ⟨354, stAt 36, "_law_log", .none, .str "law_xt0014_01" 661⟩,
    ⟨359, stAt 37, "_law_forced", .none, .str "law_xt0014_01" 661⟩,
    ⟨364, stAt 38, "_law_truths", .none, .str "law_xt0014_01" 661⟩,
    ⟨369, stAt 39, "law", .none, .str "law_xt0014_01" 661⟩] : List FnRow) ++
  ([⟨153, clsBody.getD 0 (.Pass ⟨0, 0, 0, 0⟩), "Headers.__init__", .ref 146, .str "cpy313.wsgiref.headers" 443⟩,
    ⟨160, clsBody.getD 1 (.Pass ⟨0, 0, 0, 0⟩), "Headers._convert_string_type", .none, .str "cpy313.wsgiref.headers" 443⟩,
    ⟨167, clsBody.getD 2 (.Pass ⟨0, 0, 0, 0⟩), "Headers.__len__", .none, .str "cpy313.wsgiref.headers" 443⟩,
    ⟨174, clsBody.getD 3 (.Pass ⟨0, 0, 0, 0⟩), "Headers.__setitem__", .none, .str "cpy313.wsgiref.headers" 443⟩,
    ⟨179, clsBody.getD 4 (.Pass ⟨0, 0, 0, 0⟩), "Headers.__delitem__", .none, .str "cpy313.wsgiref.headers" 443⟩,
    ⟨186, clsBody.getD 5 (.Pass ⟨0, 0, 0, 0⟩), "Headers.__getitem__", .none, .str "cpy313.wsgiref.headers" 443⟩,
    ⟨193, clsBody.getD 6 (.Pass ⟨0, 0, 0, 0⟩), "Headers.__contains__", .none, .str "cpy313.wsgiref.headers" 443⟩,
    ⟨208, clsBody.getD 8 (.Pass ⟨0, 0, 0, 0⟩), "Headers.get", .ref 201, .str "cpy313.wsgiref.headers" 443⟩,
    ⟨213, clsBody.getD 9 (.Pass ⟨0, 0, 0, 0⟩), "Headers.keys", .none, .str "cpy313.wsgiref.headers" 443⟩,
    ⟨225, clsBody.getD 11 (.Pass ⟨0, 0, 0, 0⟩), "Headers.items", .none, .str "cpy313.wsgiref.headers" 443⟩,
    ⟨237, clsBody.getD 13 (.Pass ⟨0, 0, 0, 0⟩), "Headers.__str__", .none, .str "cpy313.wsgiref.headers" 443⟩,
    ⟨244, clsBody.getD 14 (.Pass ⟨0, 0, 0, 0⟩), "Headers.__bytes__", .none, .str "cpy313.wsgiref.headers" 443⟩] : List FnRow)
noncomputable def seqO (l : List Value) : Obj := { cls := .type "tuple", data := .seq l.toArray }
noncomputable def patO (src : Value) (fl : Tok) (flv gr : Int) (d nm : Value) (cl : Addr) (k : Int) : Obj := { cls := .type "re.Pattern", data := .fields #[src, .int flv fl, .int gr 0, d, nm, .ref cl, .int k 0] }
noncomputable def codeO (l : List Nat) : Obj := seqO (l.map fun n => .int (Int.ofNat n) 0)
noncomputable def objsE (P : Params) : List (Addr × Obj) := fnTab.map (fun r => (r.a, r.obj)) ++ [(260, hdrNs P), (261, hdrCls),
  (43, patO (.bytes #[46, 42, 70, 76, 65, 71, 83, 32, 92, 40, 40, 63, 80, 60, 102, 108, 97, 103, 115, 62, 91, 94, 92, 41, 93, 42, 41, 92, 41] 292) 338 0 1 (.ref 40) (.ref 41) 42 1),
  (133, patO (.str (Str.ofString "[\\x00-\\x1F\\x7F]") 446) 469 32 0 .none .none 132 0), (138, patO (.str (Str.ofString "[\\x00-\\x08\\x0A-\\x1F\\x7F]") 472) 503 32 0 .none .none 137 0),
  (42, codeO flagsCode), (132, codeO nameCode), (137, codeO valueCode),
  (40, { cls := .type "dict", data := .dict #[⟨PyData.keyHash P (Str.ofString "flags"), .str (Str.ofString "flags") 334, .int 1 335⟩] 1 }),
  (100, seqO [.int 0 407]), (201, seqO [.none]), (146, seqO [.none])]
noncomputable def codesE : List (Addr × Str) := fnTab.map fun r => (r.a - 1, r.q)
noncomputable def globE : List (Str × Option Value) :=
  ([("Int2AP", some (.ref 50)), ("ParseFlags", some (.ref 57)), ("not_", some (.ref 64)), ("inv", some (.ref 71)), ("contains", some (.ref 78)), ("delitem", some (.ref 85)), ("getitem", some (.ref 92)), ("setitem", some (.ref 99)), ("length_hint", some (.ref 107)), ("iand", some (.ref 114)), ("ilshift", some (.ref 121)), ("ior", some (.ref 128)), ("_law_figures", some (.ref 272)), ("_law_name", some (.ref 279)), ("_law_other", some (.ref 284)), ("_law_text", some (.ref 289))] : List (Str × Option Value)) ++
  ([("_law_told", some (.ref 294)), ("_law_number", some (.ref 301)), ("_law_word", some (.ref 306)), ("_law_sees", some (.ref 311)), ("_law_up", some (.ref 316)), ("_law_defs", some (.ref 323)), ("_law_words", some (.ref 330)), ("_law_dressed", some (.ref 337)), ("_law_deed", some (.ref 344)), ("_law_machine", some (.ref 349)), ("_law_log", some (.ref 354)), ("_law_forced", some (.ref 359)), ("_law_truths", some (.ref 364)), ("law", some (.ref 369)), ("Flags", some (.ref 43)), ("_name_disallowed_re", some (.ref 133))] : List (Str × Option Value)) ++
  ([("_value_disallowed_re", some (.ref 138)), ("Headers", some (.ref 261)), ("range", none), ("len", none), ("sum", none), ("chr", none), ("ord", none), ("tuple", none), ("bytes", none), ("str", none), ("type", none), ("isinstance", none), ("int", none), ("abs", none), ("divmod", none), ("list", none)] : List (Str × Option Value))
noncomputable def strNm : Option Value → Option Str
  | some (.str q _) => some q
  | _ => none
noncomputable def codeNm (h : Heap) (a : Addr) : Option Str := (h.get? a).bind fun o => match o.data with
  | .fields vs => strNm vs[1]?
  | _ => none
noncomputable def lookD (o : Obj) (x : Str) : Option Value := match o.data with
  | .dict es _ => nsFind es x
  | _ => none
noncomputable def qV : Program := view P0 [39]
noncomputable def hloose : List Str := (["_sre", "_wall", "Flags", "Int2AP", "ParseFlags", "not_", "inv", "contains", "delitem", "getitem", "setitem", "length_hint", "iand", "ilshift", "ior"] : List Str) ++
  (["_name_disallowed_re", "_value_disallowed_re", "Headers", "_law_figures", "_law_name", "_law_other", "_law_text", "_law_told", "_law_number", "_law_word", "_law_sees", "_law_up", "_law_defs"] : List Str) ++
  (["_law_words", "_law_dressed", "_law_deed", "_law_machine", "_law_log", "_law_forced", "_law_truths"] : List Str)
noncomputable def hXt (s : Shared) : Bool := xlAt qV [] s && recOk [] s
noncomputable def objA : List Addr := fnTab.map (·.a) ++ [260, 261, 43, 133, 138, 42, 132, 137, 40, 100, 201, 146]
noncomputable def hobs (s : Shared) : List (Option Obj) × List (Option Str) × Option (List (Option Value)) :=
  (objA.map s.heap.get?, codesE.map (fun p => codeNm s.heap p.1), (s.heap.get? 3).map fun o => globE.map fun p => lookD o p.1)
noncomputable def hval (w : World) : List (Option Obj) × List (Option Str) × Option (List (Option Value)) :=
  ((objsE w.params).map (fun p => some p.2), codesE.map (fun p => some p.2), some (globE.map (·.2)))
-- HL
theorem hl_f : ∀ w : World, (openEnds treeTable P0 (w.withFollow "special-get-raises" false) 4000).map (fun s => (openSeen qV hloose (importedModules P0.main.body) hXt true s, hobs s)) = some (openGood qV hloose, hval (w.withFollow "special-get-raises" false)) := by
  intro w; kernel_rfl
theorem hl_t : ∀ w : World, (openEnds treeTable P0 (w.withFollow "special-get-raises" true) 4000).map (fun s => (openSeen qV hloose (importedModules P0.main.body) hXt true s, hobs s)) = some (openGood qV hloose, hval (w.withFollow "special-get-raises" true)) := by
  intro w; kernel_rfl
theorem left : LeftO P0 qV hloose hXt hobs hval 4000 true :=
  byRow2 "special-get-raises" (P := fun w => (openEnds treeTable P0 w 4000).map (fun s => (openSeen qV hloose (importedModules P0.main.body) hXt true s, hobs s)) = some (openGood qV hloose, hval w)) hl_f hl_t
-- HW
theorem well_said : OpenLaw.wellSaid PySem.Challenge.rw_xt0014_01 = true := by kernel_rfl
end
section
open PySem PySem.Calls PyProof.Rows PySem.W
-- S1
mutual
inductive RepD (φ : List Addr) (h : Heap) : Value → D → Prop
  | none : RepD φ h .none .none
  | bool (b : Bool) : RepD φ h (.bool b) (.bool b)
  | int (i : Int) (t : Tok) : RepD φ h (.int i t) (.int i)
  | str (l : List Nat) (t : Tok) : RepD φ h (.str ⟨l.toArray⟩ t) (.str l)
  | bytes (b : Array UInt8) (t : Tok) : RepD φ h (.bytes b t) (.bytes (b.toList.map (·.toNat)))
  | tuple {a : Addr} {vs : List Value} {ds : List D} : a ∉ φ → IsTup h a vs.toArray → RepA φ h vs ds → RepD φ h (.ref a) (.tuple ds)
  | list {a : Addr} {vs : List Value} {ds : List D} : a ∉ φ → h.IsList a vs.toArray → RepA φ h vs ds → RepD φ h (.ref a) (.list ds)
inductive RepA (φ : List Addr) (h : Heap) : List Value → List D → Prop
  | nil : RepA φ h [] []
  | cons {v : Value} {d : D} {vs : List Value} {ds : List D} : RepD φ h v d → RepA φ h vs ds → RepA φ h (v :: vs) (d :: ds)
end
noncomputable def Kb (φ : List Addr) (h h' : Heap) : Prop := ∀ b o, b ∉ φ → h.get? b = some o → h'.get? b = some o
theorem Kb.refl (φ : List Addr) (h : Heap) : Kb φ h h := fun _ _ _ e => e
theorem Kb.trans {φ : List Addr} {h h' h'' : Heap} (a : Kb φ h h') (b : Kb φ h' h'') : Kb φ h h'' := fun x o n e => b x o n (a x o n e)
theorem Kb.mono {φ ψ : List Addr} {h h' : Heap} (a : Kb φ h h') (hs : ∀ x ∈ φ, x ∈ ψ) : Kb ψ h h' := fun x o n e => a x o (fun m => n (hs x m)) e
theorem isTup_at {h h' : Heap} {a : Addr} {xs} (x : IsTup h a xs) (k : ∀ o, h.get? a = some o → h'.get? a = some o) : IsTup h' a xs := x.elim fun o r => ⟨o, k o r.1, r.2⟩
theorem isList_at {h h' : Heap} {a : Addr} {xs} (x : h.IsList a xs) (k : ∀ o, h.get? a = some o → h'.get? a = some o) : h'.IsList a xs := x.elim fun o r => ⟨o, k o r.1, r.2⟩
noncomputable abbrev DsP (P : D → Prop) (ds : List D) : Prop := ∀ d ∈ ds, P d
theorem RepD.turnP {φ ψ : List Addr} {h h' : Heap} (P : D → Prop) (ht : ∀ l, P (.tuple l) → DsP P l) (hl : ∀ l, P (.list l) → DsP P l)
    (H : ∀ a o d, P d → RepD φ h (.ref a) d → a ∉ φ → h.get? a = some o → a ∉ ψ ∧ h'.get? a = some o) {v : Value} {d : D} (x : RepD φ h v d) : P d → RepD ψ h' v d :=
  RepD.rec (motive_1 := fun v d _ => P d → RepD ψ h' v d) (motive_2 := fun vs ds _ => DsP P ds → RepA ψ h' vs ds)
    (fun _ => .none) (fun b _ => .bool b) (fun i t _ => .int i t) (fun l t _ => .str l t) (fun b t _ => .bytes b t)
    (fun n x r ih p => x.elim fun o q => .tuple (H _ o _ p (.tuple n x r) n q.1).1 (isTup_at x fun o e => (H _ o _ p (.tuple n x r) n e).2) (ih (ht _ p)))
    (fun n x r ih p => x.elim fun o q => .list (H _ o _ p (.list n x r) n q.1).1 (isList_at x fun o e => (H _ o _ p (.list n x r) n e).2) (ih (hl _ p)))
    (fun _ => .nil) (fun _ _ ia ir p => .cons (ia (p _ List.mem_cons_self)) (ir fun d m => p d (List.mem_cons_of_mem _ m))) x
theorem RepA.turnP {φ ψ : List Addr} {h h' : Heap} (P : D → Prop) (ht : ∀ l, P (.tuple l) → DsP P l) (hl : ∀ l, P (.list l) → DsP P l)
    (H : ∀ a o d, P d → RepD φ h (.ref a) d → a ∉ φ → h.get? a = some o → a ∉ ψ ∧ h'.get? a = some o) {vs : List Value} {ds : List D} (x : RepA φ h vs ds) (p : DsP P ds) : RepA ψ h' vs ds := by
  induction vs generalizing ds with
  | nil => cases x; exact .nil
  | cons v vs ih => cases x with | cons a r => exact .cons (a.turnP P ht hl H (p _ List.mem_cons_self)) (ih r fun d m => p d (List.mem_cons_of_mem _ m))
noncomputable def Turn (φ : List Addr) (h : Heap) (ψ : List Addr) (h' : Heap) : Prop := ∀ a o, a ∉ φ → h.get? a = some o → a ∉ ψ ∧ h'.get? a = some o
section
variable {φ ψ : List Addr} {h h' : Heap}
theorem RepD.turn (H : Turn φ h ψ h') {v : Value} {d : D} (x : RepD φ h v d) : RepD ψ h' v d := x.turnP (fun _ => True) (fun _ _ _ _ => trivial) (fun _ _ _ _ => trivial) (fun a o _ _ _ n e => H a o n e) trivial
theorem RepA.turn (H : Turn φ h ψ h') {vs : List Value} {ds : List D} (x : RepA φ h vs ds) : RepA ψ h' vs ds := x.turnP (fun _ => True) (fun _ _ _ _ => trivial) (fun _ _ _ _ => trivial) (fun a o _ _ _ n e => H a o n e) fun _ _ => trivial
theorem Turn.keep (k : Kb φ h h') : Turn φ h φ h' := fun a o n e => ⟨n, k a o n e⟩
theorem Turn.fewer (hs : ∀ x ∈ ψ, x ∈ φ) : Turn φ h ψ h := fun _ _ n e => ⟨fun m => n (hs _ m), e⟩
theorem no_get {a : Addr} {o : Obj} {P : Prop} (e : h.get? a = some o) (e' : h.get? a = none) : P := by rw [e] at e'; contradiction
theorem Turn.more (hs : ∀ x ∈ ψ, x ∈ φ ∨ h.get? x = none) : Turn φ h ψ h := fun _ _ n e => ⟨fun m => (hs _ m).elim n fun e' => no_get e e', e⟩
theorem RepD.keep (k : Kb φ h h') {v : Value} {d : D} (x : RepD φ h v d) : RepD φ h' v d := x.turn (.keep k)
theorem RepA.keep (k : Kb φ h h') {vs : List Value} {ds : List D} (x : RepA φ h vs ds) : RepA φ h' vs ds := x.turn (.keep k)
theorem RepD.fewer (hs : ∀ x ∈ ψ, x ∈ φ) {v : Value} {d : D} (x : RepD φ h v d) : RepD ψ h v d := x.turn (.fewer hs)
theorem RepA.fewer (hs : ∀ x ∈ ψ, x ∈ φ) {vs : List Value} {ds : List D} (x : RepA φ h vs ds) : RepA ψ h vs ds := x.turn (.fewer hs)
theorem RepD.more (hs : ∀ x ∈ ψ, x ∈ φ ∨ h.get? x = Option.none) {v : Value} {d : D} (x : RepD φ h v d) : RepD ψ h v d := x.turn (.more hs)
theorem RepA.more (hs : ∀ x ∈ ψ, x ∈ φ ∨ h.get? x = none) {vs : List Value} {ds : List D} (x : RepA φ h vs ds) : RepA ψ h vs ds := x.turn (.more hs)
end
theorem RepA.ind {φ : List Addr} {h : Heap} {M : List Value → List D → Prop} (n : M [] []) (c : ∀ v d vs ds, RepD φ h v d → RepA φ h vs ds → M vs ds → M (v :: vs) (d :: ds)) {vs : List Value} : ∀ {ds : List D}, RepA φ h vs ds → M vs ds := by
  induction vs with
  | nil => intro ds x; cases x; exact n
  | cons v vs ih => intro ds x; cases x with | cons a r => exact c _ _ _ _ a r (ih r)
theorem RepA.length {φ : List Addr} {h : Heap} {vs : List Value} {ds : List D} (x : RepA φ h vs ds) : vs.length = ds.length := x.ind (M := fun vs ds => vs.length = ds.length) rfl fun _ _ _ _ _ _ ih => congrArg (· + 1) ih
theorem RepA.size {φ : List Addr} {h : Heap} {vs : List Value} {ds : List D} (x : RepA φ h vs ds) : vs.toArray.size = ds.length := x.length
theorem RepA.append {φ : List Addr} {h : Heap} {vs ws : List Value} {ds es : List D} (x : RepA φ h vs ds) (k : RepA φ h ws es) : RepA φ h (vs ++ ws) (ds ++ es) := x.ind (M := fun vs ds => RepA φ h (vs ++ ws) (ds ++ es)) k fun _ _ _ _ a _ ih => .cons a ih
theorem RepA.get {φ : List Addr} {h : Heap} {vs : List Value} {ds : List D} (k : Nat) (x : RepA φ h vs ds) : (vs[k]? = none ∧ ds[k]? = none) ∨ ∃ v d, vs[k]? = some v ∧ ds[k]? = some d ∧ RepD φ h v d :=
  x.ind (M := fun vs ds => ∀ k : Nat, (vs[k]? = none ∧ ds[k]? = none) ∨ ∃ v d, vs[k]? = some v ∧ ds[k]? = some d ∧ RepD φ h v d) (fun _ => .inl ⟨rfl, rfl⟩)
    (fun _ _ _ _ a _ ih k => by cases k with
      | zero => exact .inr ⟨_, _, rfl, rfl, a⟩
      | succ k => exact ih k) k
theorem RepA.get1 {φ : List Addr} {h : Heap} {vs : List Value} {ds : List D} {k : Nat} {d : D} (r : RepA φ h vs ds) (e : ds[k]? = some d) : ∃ v, vs[k]? = some v ∧ RepD φ h v d := by
  rcases r.get k with ⟨_, z⟩ | ⟨v, d', a, b, c⟩
  · rw [z] at e; cases e
  · rw [b] at e; cases e; exact ⟨v, a, c⟩
theorem RepA.getV {φ : List Addr} {h : Heap} {vs : List Value} {ds : List D} {k : Nat} {v : Value} (r : RepA φ h vs ds) (e : vs[k]? = some v) : ∃ d, ds[k]? = some d ∧ RepD φ h v d := by
  rcases r.get k with ⟨z, _⟩ | ⟨v', d', a, b, c⟩
  · rw [z] at e; cases e
  · rw [a] at e; cases e; exact ⟨d', b, c⟩
abbrev aHdr : Addr := 261
noncomputable def patAddr : Nat → Addr
  | 0 => 43
  | 1 => 133
  | _ => 138
inductive IsMat (φ : List Addr) (h : Heap) (a : Addr) (g : List Nat) : Prop
  | mk (b : Array UInt8) (t : Tok) (i j : Nat) (v2 v3 v4 x0 x1 : Value) (ta : Addr) (e1 : h.get? a = some { cls := .type "re.Match", data := .fields #[.bytes b t, .ref 43, v2, v3, v4, .ref ta] }) (e2 : IsTup h ta #[x0, x1, rawInt i, rawInt j]) (n1 : a ∉ φ) (n2 : ta ∉ φ)
      (r : i ≤ j ∧ j ≤ b.size ∧ b.size ≤ 16777216 ∧ g = ((b.toList.drop i).take (j - i)).map UInt8.toNat)
theorem IsMat.turn {φ ψ : List Addr} {h h' : Heap} (H : Turn φ h ψ h') {a : Addr} {g : List Nat} (x : IsMat φ h a g) : IsMat ψ h' a g := by
  cases x with
  | mk b t i j v2 v3 v4 x0 x1 ta e1 e2 n1 n2 r => exact e2.elim fun o q => ⟨b, t, i, j, v2, v3, v4, x0, x1, ta, (H _ _ n1 e1).2, isTup_at e2 fun o e => (H _ o n2 e).2, (H _ _ n1 e1).1, (H _ o n2 q.1).1, r⟩
inductive Hd (φ : List Addr) (h : Heap) (a b : Addr) : Prop
  | mk (dx : Addr) (n : Nat) (hs : Int) (t : Tok) (e1 : h.get? a = some (instObj aHdr dx)) (e2 : h.get? dx = some (dictOf [⟨hs, .str (Str.ofString "_headers") t, .ref b⟩] n)) (n1 : a ∉ φ) (n2 : dx ∉ φ)
theorem Hd.turn {φ ψ : List Addr} {h h' : Heap} (H : Turn φ h ψ h') {a b : Addr} (x : Hd φ h a b) : Hd ψ h' a b := by
  cases x with
  | mk dx n hs t e1 e2 n1 n2 => exact ⟨dx, n, hs, t, (H _ _ n1 e1).2, (H _ _ n2 e2).2, (H _ _ n1 e1).1, (H _ _ n2 e2).1⟩
structure Ap where
  ix : List Addr
  pr : List Addr
noncomputable def Ap.all (φ : Ap) : List Addr := φ.ix ++ φ.pr
inductive RepV (φ : Ap) (h : Heap) : Value → V → Prop
  | p {v : Value} {d : D} : RepD φ.all h v d → RepV φ h v (.p d)
  | own {a : Addr} {i : Nat} : φ.ix[i]? = some a → RepV φ h (.ref a) (.own i)
  | hdr {a b : Addr} {i : Nat} : φ.ix[i]? = some b → Hd φ.all h a b → RepV φ h (.ref a) (.hdr i)
  | pat (k : Nat) : RepV φ h (.ref (patAddr k)) (.pat k)
  | mat {a : Addr} {g : List Nat} : IsMat φ.all h a g → RepV φ h (.ref a) (.mat g)
  | typ (s : String) : RepV φ h (.type s) (.typ s)
  | any (u : Value) : RepV φ h u .any
  | rng {a : Addr} {x c y : Int} {n : Nat} {t u v : Tok} : a ∉ φ.all → IsRange h a x y c t u v → Builtin.Range.small x y c = true → Builtin.Range.rangeSize x y c = n → RepV φ h (.ref a) (.rng x c n)
theorem RepV.turn' {φ ψ : Ap} {h h' : Heap} (hi : ∀ {i : Nat} {c : Addr}, φ.ix[i]? = some c → ψ.ix[i]? = some c) (H : Turn φ.all h ψ.all h') {v : Value} {d : V} (x : RepV φ h v d) : RepV ψ h' v d := by
  cases x with
  | p x => exact .p (x.turn H)
  | own e => exact .own (hi e)
  | hdr e x => exact .hdr (hi e) (x.turn H)
  | pat k => exact .pat k
  | mat x => exact .mat (x.turn H)
  | typ s => exact .typ s
  | any => exact .any _
  | rng n x y z => exact .rng (H _ _ n x).1 (H _ _ n x).2 y z
theorem RepV.turn {φ ψ : Ap} {h h' : Heap} (hi : ψ.ix = φ.ix) (H : Turn φ.all h ψ.all h') {v : Value} {d : V} (x : RepV φ h v d) : RepV ψ h' v d := x.turn' (fun e => hi ▸ e) H
end
section
open PySem PySem.Calls PyProof.Rows PySem.W
set_option autoImplicit false
-- S2
structure Base (hb : Heap) (mg mb : Str → Option Value) : Prop where
  g : hb.Ns mainGlobals mg
  b : hb.Ns builtinsNs mb
  bi : ∀ x : Str, x ≠ "__name__" → mb x = bootBuiltins x
  nolim : hb.NoLimit
structure StoOk (hb : Heap) (φ : Ap) (σ : Sto) (h : Heap) : Prop where
  base : ∀ b o, hb.get? b = some o → h.get? b = some o
  high : ∀ a ∈ φ.all, hb.get? a = none
  low : ∀ a ∈ φ.all, ∃ o, h.get? a = some o
  nd : φ.ix.Nodup
  disj : ∀ a ∈ φ.ix, a ∉ φ.pr
  len : φ.ix.length = σ.length
  sto : ∀ (i : Nat) (l : List D), σ[i]? = some l → ∃ a vs, φ.ix[i]? = some a ∧ h.PlainList a vs.toArray ∧ RepA φ.all h vs l
abbrev Kp (s s' : Shared) : Prop := Keeps s s'
theorem Kp.refl (s : Shared) : Kp s s := ⟨s.heap, s.toks, rfl, fun _ _ e => e⟩
theorem Kp.trans {a b c : Shared} (x : Kp a b) (y : Kp b c) : Kp a c := by
  obtain ⟨h, t, rfl, k⟩ := x
  obtain ⟨h', t', rfl, k'⟩ := y
  exact ⟨h', t', rfl, fun b o e => k' b o (k b o e)⟩
theorem Kp.toks (s : Shared) (t : Nat) : Kp s { s with toks := t } := ⟨s.heap, t, rfl, fun _ _ e => e⟩
theorem Kp.push (s : Shared) (o : Obj) (t : Nat) : Kp s { s with heap := s.heap.push o, toks := t } := ⟨_, t, rfl, fun _ _ e => Heap.get?_push_of_some _ e⟩
theorem Kp.push' (s : Shared) (o : Obj) : Kp s { s with heap := s.heap.push o } := Kp.push s o s.toks
theorem Kp.kb {s s' : Shared} (x : Kp s s') (φ : List Addr) : Kb φ s.heap s'.heap := by
  obtain ⟨h, t, rfl, k⟩ := x
  exact fun b o _ e => k b o e
theorem Kp.all {s s' : Shared} (x : Kp s s') : ∀ b o, s.heap.get? b = some o → s'.heap.get? b = some o := by
  obtain ⟨h, t, rfl, k⟩ := x
  exact k
theorem StoOk.kp {hb : Heap} {φ : Ap} {σ : Sto} {s s' : Shared} (x : StoOk hb φ σ s.heap) (k : Kp s s') : StoOk hb φ σ s'.heap := by
  obtain ⟨h', tk, rfl, k⟩ := k
  refine ⟨fun b o e => k b o (x.base b o e), x.high, fun a m => let ⟨o, e⟩ := x.low a m; ⟨o, k a o e⟩, x.nd, x.disj, x.len, fun i l e => ?_⟩
  obtain ⟨a, vs, e1, e2, e3⟩ := x.sto i l e
  exact ⟨a, vs, e1, e2.at (k a), e3.keep fun b o _ e => k b o e⟩
theorem RepV.keep {φ : Ap} {h h' : Heap} (k : Kb φ.all h h') {v : Value} {d : V} (x : RepV φ h v d) : RepV φ h' v d := x.turn rfl (.keep k)
inductive RepVs (φ : Ap) (h : Heap) : List Value → List V → Prop
  | nil : RepVs φ h [] []
  | cons {u : Value} {v : V} {us : List Value} {vs : List V} : RepV φ h u v → RepVs φ h us vs → RepVs φ h (u :: us) (v :: vs)
theorem RepVs.keep {φ : Ap} {h h' : Heap} (k : Kb φ.all h h') {us : List Value} {vs : List V} (x : RepVs φ h us vs) : RepVs φ h' us vs := by
  induction x with
  | nil => exact .nil
  | cons a _ ih => exact .cons (a.keep k) ih
theorem RepVs.append {φ : Ap} {h : Heap} {us us' : List Value} {vs vs' : List V} (x : RepVs φ h us vs) (y : RepVs φ h us' vs') : RepVs φ h (us ++ us') (vs ++ vs') := by
  induction x with
  | nil => exact y
  | cons a _ ih => exact .cons a ih
noncomputable def Held (env : Env) (h : Heap) (x : Str) (u : Value) : Prop :=
  (env.kindOf x = some .local ∧ ∃ m, h.Ns env.locals m ∧ m x = some u) ∨
  ((env.kindOf x = some .cell ∨ env.kindOf x = some .free) ∧ (x == ("__classdict__" : Str)) = false ∧ ∃ c, env.cells.lookup x = some c ∧ h.IsCell c (some u))
structure EnvOk (env : Env) (sc : Sc) (φ : Ap) (ρ : Rho) (h : Heap) : Prop where
  kind : env.scope.kind = .function
  glob : env.globals = mainGlobals
  blt : env.builtins = builtinsNs
  sc : ∀ x k, sc.lookup x = some k → env.kindOf x = some k ∨ (k = .free ∧ env.kindOf x = some .cell)
  vars : ∀ x v, ρ.lookup x = some v → (x == ("__debug__" : Str)) = false → ∃ u, Held env h x u ∧ RepV φ h u v
theorem Held.keep {env : Env} {h h' : Heap} {x : Str} {u : Value} (k : ∀ b o, h.get? b = some o → h'.get? b = some o) (e : Held env h x u) : Held env h' x u := by
  rcases e with ⟨a, m, n, q⟩ | ⟨a, q, c, l, n⟩
  · exact .inl ⟨a, m, n.keeps k, q⟩
  · exact .inr ⟨a, q, c, l, n.keeps k⟩
theorem EnvOk.kp {env : Env} {sc : Sc} {φ : Ap} {ρ : Rho} {s s' : Shared} (x : EnvOk env sc φ ρ s.heap) (k : Kp s s') : EnvOk env sc φ ρ s'.heap :=
  ⟨x.kind, x.glob, x.blt, x.sc, fun n v e d => let ⟨u, a, b⟩ := x.vars n v e d; ⟨u, a.keep k.all, b.keep (k.kb φ.all)⟩⟩
noncomputable def AOk (A : Around) (m : Nat) : Prop := A.handled = none ∧ A.depth + m < 1000 ∧ A.units + 4 * m < 9900
theorem AOk.less {A : Around} {m n : Nat} (x : AOk A n) (h : m ≤ n) : AOk A m := ⟨x.1, by have := x.2.1; omega, by have := x.2.2; omega⟩
theorem AOk.in1 {A : Around} {m : Nat} (x : AOk A (m + 1)) : AOk A.in1 m := ⟨x.1, by have := x.2.1; show A.depth + m < 1000; omega, by have := x.2.2; show A.units + 1 + 4 * m < 9900; omega⟩
theorem AOk.deeper {A : Around} {m : Nat} {env : Env} (x : AOk A (m + 1)) : AOk (A.deeper env) m := ⟨x.1, by have := x.2.1; show A.depth + 1 + m < 1000; omega, by have := x.2.2; show A.units + 3 + 4 * m < 9900; omega⟩
section
variable (prog : Program) (w : World) (hb : Heap) (mg mb : Str → Option Value)
noncomputable def CallP (m : Nat) (fv : Value) (g : Sto → List V → Option V) : Prop :=
  ∀ A φ σ us vs r s (Q : Value → Shared → Prop) (E : Value → Shared → Prop), AOk A m → StoOk hb φ σ s.heap → RepVs φ s.heap us vs → g σ vs = some r →
    (∀ u s', Kp s s' → RepV φ s'.heap u r → Q u s') → wpAny (model prog w) A (call fv us []) Q E s
noncomputable def Keeper1 (fv : Value) : Prop := ∃ k, ∀ (s : Shared) (A : Around) (Q : Keeper → Shared → Prop) (E : Value → Shared → Prop), (∀ b o, hb.get? b = some o → s.heap.get? b = some o) → Q k s → wpAny (model prog w) A (keeperOf fv) Q E s
noncomputable def GlobIs (f : Str) (fv : Value) : Prop := mg f = some fv ∨ (mg f = none ∧ f ≠ "__name__" ∧ bootBuiltins f = some fv)
noncomputable def CallK (isC : Bool) (m : Nat) (fv : Value) (g : Sto → List V → Option V) : Prop :=
  ∀ A φ σ us vs (kw : List (Str × Value)) ks r s (Q : Value → Shared → Prop) (E : Value → Shared → Prop), AOk A m → StoOk hb φ σ s.heap → RepVs φ s.heap us vs → RepVs φ s.heap (kw.map (·.2)) ks → ((kw = [] ∧ isC = false) ∨ (isC = true ∧ ∃ k, kw = [(("name" : Str), k)])) → g σ (vs ++ ks) = some r →
    (∀ u s', Kp s s' → RepV φ s'.heap u r → Q u s') → wpAny (model prog w) A (call fv us kw) Q E s
noncomputable def KpS (φ : Ap) (s s' : Shared) : Prop := ∃ h' tk, s' = { s with heap := h', toks := tk } ∧ Kb φ.ix s.heap h'
noncomputable def CallA (m : Nat) (fv : Value) (g : Sto → List V → Option (V × Sto)) : Prop :=
  ∀ A φ σ us vs r σ' s (Q : Value → Shared → Prop) (E : Value → Shared → Prop), AOk A m → StoOk hb φ σ s.heap → RepVs φ s.heap us vs → g σ vs = some (r, σ') →
    (∀ u s', KpS φ s s' → StoOk hb φ σ' s'.heap → RepV φ s'.heap u r → Q u s') → wpAny (model prog w) A (call fv us []) Q E s
structure CtxOk (C : Ctx) (m : Nat) : Prop where
  fn : ∀ f g, C.fn f = some g → ∃ fv, GlobIs mg f fv ∧ Keeper1 prog w hb fv ∧ CallP prog w hb m fv g
  eff : ∀ f g, C.eff f = some g → ∃ fv, GlobIs mg f fv ∧ Keeper1 prog w hb fv ∧ CallA prog w hb m fv g
  glob : ∀ x v, C.glob x = some v → ∃ fv, GlobIs mg x fv ∧ ∀ φ h, RepV φ h fv v
  inH : ∀ f, C.meth "__contains__" = some f → ∀ A φ σ a i u d b s (Q : Value → Shared → Prop) (E : Value → Shared → Prop), AOk A m → StoOk hb φ σ s.heap → RepV φ s.heap (.ref a) (.hdr i) → RepD φ.all s.heap u d → f σ [.hdr i, .p d] = some (.p (.bool b)) →
    (∀ s', Kp s s' → Q (.bool b) s') → wpAny (model prog w) A (compareOp .In u (.ref a)) Q E s
  notInH : ∀ f, C.meth "__contains__" = some f → ∀ A φ σ a i u d b s (Q : Value → Shared → Prop) (E : Value → Shared → Prop), AOk A m → StoOk hb φ σ s.heap → RepV φ s.heap (.ref a) (.hdr i) → RepD φ.all s.heap u d → f σ [.hdr i, .p d] = some (.p (.bool b)) →
    (∀ s', Kp s s' → Q (.bool (!b)) s') → wpAny (model prog w) A (compareOp .NotIn u (.ref a)) Q E s
  getH : ∀ f, C.meth "__getitem__" = some f → ∀ A φ σ a i u d r s value slice (Q : Value → Shared → Prop) (E : Value → Shared → Prop), AOk A m → StoOk hb φ σ s.heap → RepV φ s.heap (.ref a) (.hdr i) → RepD φ.all s.heap u d → f σ [.hdr i, .p d] = some r →
    (∀ l h st p, slice ≠ .Slice l h st p) → (∀ v s', Kp s s' → RepV φ s'.heap v r → Q v s') → wpAny (model prog w) A (subscriptTail value slice (.ref a) u) Q E s
  attrH : ∀ A φ σ a i s value (Q : Value → Shared → Prop) (E : Value → Shared → Prop), AOk A m → StoOk hb φ σ s.heap → RepV φ s.heap (.ref a) (.hdr i) → (∀ u s', Kp s s' → RepV φ s'.heap u (.own i) → Q u s') →
    wpAny (model prog w) A (do let r ← holding [.ref a] (getAttr (.ref a) "_headers" true); letTemporaryGo value (.ref a) r; pure r) Q E s
  methH : ∀ n f, C.meth n = some f → ∃ fv, Keeper1 prog w hb fv ∧ CallK prog w hb (n == ("_convert_string_type" : Str)) m fv f ∧ ∀ A φ σ a i s pl (Q : Value × List Value → Shared → Prop) (E : Value → Shared → Prop), AOk A m → StoOk hb φ σ s.heap → RepV φ s.heap (.ref a) (.hdr i) → Q (fv, [.ref a]) s →
    wpAny (model prog w) A (getMethod (.ref a) n pl) Q E s
  hset : ∀ A φ σ a i u d v e σ' s (Q : Unit → Shared → Prop) (E : Value → Shared → Prop), AOk A m → StoOk hb φ σ s.heap → RepV φ s.heap (.ref a) (.hdr i) → RepD φ.all s.heap u d → RepD φ.all s.heap v e → C.hset σ i d e = some σ' →
    (∀ s', KpS φ s s' → StoOk hb φ σ' s'.heap → Q () s') → wpAny (model prog w) A (setItem (.ref a) u v) Q E s
  hdel : ∀ A φ σ a i u d σ' s (Q : Unit → Shared → Prop) (E : Value → Shared → Prop), AOk A m → StoOk hb φ σ s.heap → RepV φ s.heap (.ref a) (.hdr i) → RepD φ.all s.heap u d → C.hdel σ i d = some σ' →
    (∀ s', KpS φ s s' → StoOk hb φ σ' s'.heap → Q () s') → wpAny (model prog w) A (delItem (.ref a) u) Q E s
noncomputable def SE (R : Rec) (m : Nat) : Prop := ∀ sc ρ σ e v, R.e sc ρ σ e = some v → ∀ A φ env s (Q : Value → Shared → Prop) (E : Value → Shared → Prop), AOk A m → StoOk hb φ σ s.heap → EnvOk env sc φ ρ s.heap →
  (∀ u s', Kp s s' → RepV φ s'.heap u v → Q u s') → wpAny (model prog w) A (eval e env) Q E s
noncomputable def ST (R : Rec) (m : Nat) : Prop := ∀ sc ρ σ e v, R.t sc ρ σ e = some v → ∀ A φ env s (Q : Bool → Shared → Prop) (E : Value → Shared → Prop), AOk A m → StoOk hb φ σ s.heap → EnvOk env sc φ ρ s.heap →
  (∀ s', Kp s s' → Q v s') → wpAny (model prog w) A (isTrue e env (eval e env)) Q E s
end
section
variable {prog : Program} {w : World} {hb : Heap} {mg mb : Str → Option Value} {C : Ctx} {R : Rec} {m : Nat} {sc : Sc} {ρ : Rho} {σ : Sto} {A : Around} {φ : Ap} {env : Env} {s : Shared} {Q : Value → Shared → Prop} {E : Value → Shared → Prop}
theorem glob_load {x : Str} {fv : Value} (B : Base hb mg mb) (k : ∀ b o, hb.get? b = some o → s.heap.get? b = some o) (V : EnvOk env sc φ ρ s.heap) (hk : sc.lookup x = some .globalImplicit) (hd : (x == ("__debug__" : Str)) = false)
    (g : GlobIs mg x fv) {pos : Pos} (h : Q fv s) : wpAny (model prog w) A (eval (.Name x pos) env) Q E s := by
  have hx : env.kindOf x = some .globalImplicit := by
    rcases V.sc x _ hk with a | ⟨a, _⟩
    · exact a
    · cases a
  refine Name_function_global V.kind hx ?_ hd
  rcases g with a | ⟨a, b, c⟩
  · exact loadGlobal_global (mg := mg) (by rw [V.glob]; exact B.g.keeps k) a h
  · exact loadGlobal_builtin (mg := mg) (mb := mb) (by rw [V.glob]; exact B.g.keeps k) a (by rw [V.blt]; exact B.b.keeps k) ((B.bi x b).trans c) h
theorem held_load {x : Str} {u : Value} (V : EnvOk env sc φ ρ s.heap) (hd : (x == ("__debug__" : Str)) = false) (e : Held env s.heap x u) {pos : Pos} (h : Q u s) : wpAny (model prog w) A (eval (.Name x pos) env) Q E s := by
  refine wpAny_Name ?_ hd
  rcases e with ⟨a, mm, n, q⟩ | ⟨a, hc, c, l, n⟩
  · exact wpAny_loadName_local V.kind a n q h
  · rcases a with a | a
    · exact wpAny_loadName_cell V.kind a l n h
    · exact wpAny_loadName_free V.kind a l n h hc
theorem hq {v z : V} (h : ∀ u s', Kp s s' → RepV φ s'.heap u v → Q u s') (e : z = v) (u : Value) (s' : Shared) (k : Kp s s') (r : RepV φ s'.heap u z) : Q u s' := h u s' k (e ▸ r)
theorem hv {v z : V} (h : ∀ u s', Kp s s' → RepV φ s'.heap u v → Q u s') (e : some z = some v) (u : Value) (s' : Shared) (k : Kp s s') (r : RepV φ s'.heap u z) : Q u s' := hq h (Option.some.inj e) u s' k r
theorem se_Name (B : Base hb mg mb) (CO : CtxOk prog w hb mg C m) {x : Str} {pos : Pos} {v : V} (e : stepE C R sc ρ σ (.Name x pos) = some v) (O : StoOk hb φ σ s.heap) (V : EnvOk env sc φ ρ s.heap)
    (h : ∀ u s', Kp s s' → RepV φ s'.heap u v → Q u s') : wpAny (model prog w) A (eval (.Name x pos) env) Q E s := by
  replace e : nameV C sc ρ x = some v := e
  unfold nameV at e
  cases hd : x == ("__debug__" : Str) with
  | true =>
    rw [hd, if_pos rfl] at e
    have : x = ("__debug__" : Str) := beq_iff_eq.mp hd
    subst this
    show wpAny _ _ (standAt pos >>= fun _ => if (("__debug__" : Str) == ("__debug__" : Str)) = true then debugConstant else loadName env _) _ _ _
    refine wpAny_bind (wpAny_standAt ?_)
    rw [if_pos hd]
    exact wpAny_bind (wpAny_rule (wpAny_pure (hv h e _ _ (Kp.refl s) (.p (.bool true)))))
  | false =>
    rw [hd, if_neg Bool.false_ne_true] at e
    exact ok e (fun hl => (V.vars x _ hl hd).elim fun _ a => held_load V hd a.1 (h _ _ (Kp.refl s) a.2)) fun e => gk e fun hc e => (CO.glob x v e).elim fun _ a => glob_load B O.base V (beq_iff_eq.mp (an hc).2) hd a.1 (h _ _ (Kp.refl s) (a.2 _ _))
theorem se_Constant {c : Const} {k : Nat} {pos : Pos} {v : V} (e : stepE C R sc ρ σ (.Constant c k pos) = some v) (h : ∀ u s', Kp s s' → RepV φ s'.heap u v → Q u s') :
    wpAny (model prog w) A (eval (.Constant c k pos) env) Q E s := by
  replace e : const? c = some v := e
  cases c with
  | none => exact wpAny_Constant_none (hv h e _ _ (Kp.refl s) (.p .none))
  | bool b => exact wpAny_pure (hv h e _ _ (Kp.refl s) (.p (.bool b)))
  | int i => exact fun Γ p hΓ => wpAny_mkInt (M := model prog w) (A := A) (hv h e _ _ (Kp.toks s _) (.p (.int i _))) Γ p hΓ
  | str x => exact wpAny_mkText (hv h e _ _ (Kp.toks s _) (.p (.str _ _)))
  | bytes b => exact wpAny_bind (wpAny_fresh (wpAny_pure (hv h e _ _ (Kp.toks s _) (.p (.bytes b.toArray s.toks)))))
  | float _ => exact nn e
  | complex _ _ => exact nn e
  | ellipsis => exact nn e
end
end
section
open PySem PySem.Calls PyProof.Rows PySem.W
set_option autoImplicit false
set_option backward.match.sparseCases false
-- S3
section
variable {φ : List Addr} {h : Heap} {v : Value} {d : D}
inductive BytesRep (v : Value) (l : List Nat) : Prop
  | mk (b : Array UInt8) (t : Tok) (ev : v = .bytes b t) (el : l = b.toList.map (·.toNat))
inductive ListRep (φ : List Addr) (h : Heap) (v : Value) (l : List D) : Prop
  | mk (a : Addr) (vs : List Value) (ev : v = .ref a) (n : a ∉ φ) (x : h.IsList a vs.toArray) (r : RepA φ h vs l)
inductive TupRep (φ : List Addr) (h : Heap) (v : Value) (l : List D) : Prop
  | mk (a : Addr) (vs : List Value) (ev : v = .ref a) (n : a ∉ φ) (x : IsTup h a vs.toArray) (r : RepA φ h vs l)
noncomputable def invD (φ : List Addr) (h : Heap) (v : Value) : D → Prop
  | .none => v = .none
  | .bool b => v = .bool b
  | .int i => ∃ t, v = .int i t
  | .str l => ∃ t, v = .str ⟨l.toArray⟩ t
  | .bytes l => BytesRep v l
  | .tuple l => TupRep φ h v l
  | .list l => ListRep φ h v l
theorem RepD.inv (x : RepD φ h v d) : invD φ h v d := by
  cases x with
  | none => exact rfl
  | bool b => exact rfl
  | int i t => exact ⟨t, rfl⟩
  | str l t => exact ⟨t, rfl⟩
  | bytes b t => exact ⟨b, t, rfl, rfl⟩
  | tuple n y r => exact ⟨_, _, rfl, n, y, r⟩
  | list n y r => exact ⟨_, _, rfl, n, y, r⟩
theorem repD_str {l : List Nat} (x : RepD φ h v (.str l)) : ∃ t, v = .str ⟨l.toArray⟩ t := x.inv
theorem repD_int {i : Int} (x : RepD φ h v (.int i)) : ∃ t, v = .int i t := x.inv
theorem repD_bool {b : Bool} (x : RepD φ h v (.bool b)) : v = .bool b := x.inv
theorem repD_none (x : RepD φ h v .none) : v = .none := x.inv
theorem repD_bytes {l : List Nat} (x : RepD φ h v (.bytes l)) : BytesRep v l := x.inv
theorem repD_list {l : List D} (x : RepD φ h v (.list l)) : ListRep φ h v l := x.inv
theorem repD_tuple {l : List D} (x : RepD φ h v (.tuple l)) : TupRep φ h v l := x.inv
end
section
variable {x : V}
theorem isD {d : D} (e : x.d? = some d) : x = .p d := by
  cases x <;> first | exact congrArg V.p (Option.some.inj e) | exact nn e
theorem isOwn {i : Nat} (e : x.own? = some i) : x = .own i := by
  cases x <;> first | exact congrArg V.own (Option.some.inj e) | exact nn e
theorem isHdr {i : Nat} (e : x.hdr? = some i) : x = .hdr i := by
  cases x <;> first | exact congrArg V.hdr (Option.some.inj e) | exact nn e
theorem isTyp {i : String} (e : x.typ? = some i) : x = .typ i := by
  cases x <;> first | exact congrArg V.typ (Option.some.inj e) | exact nn e
theorem ofD {α : Type} {f : D → Option α} {a : α} {y : D} (H : ∀ d, f d = some a → d = y) (e : x.d?.bind f = some a) : x = .p y := bk e fun d e1 e2 => (isD e1).trans (congrArg V.p (H d e2))
theorem isInt' {a : Int} (e : x.int? = some a) : x = .p (.int a) := ofD (fun d e => by cases d <;> first | exact congrArg D.int (Option.some.inj e) | exact nn e) e
theorem isBool {a : Bool} (e : x.bool? = some a) : x = .p (.bool a) := ofD (fun d e => by cases d <;> first | exact congrArg D.bool (Option.some.inj e) | exact nn e) e
theorem dStr {d : D} {a : List Nat} (e : d.str? = some a) : d = .str a := by cases d <;> first | exact congrArg D.str (Option.some.inj e) | exact nn e
theorem dBytes {d : D} {a : List Nat} (e : d.bytes? = some a) : d = .bytes a := by cases d <;> first | exact congrArg D.bytes (Option.some.inj e) | exact nn e
theorem dTup {d : D} {a : List D} (e : d.tup? = some a) : d = .tuple a := by cases d <;> first | exact congrArg D.tuple (Option.some.inj e) | exact nn e
theorem dLst {d : D} {a : List D} (e : d.lst? = some a) : d = .list a := by cases d <;> first | exact congrArg D.list (Option.some.inj e) | exact nn e
theorem dInt {d : D} {a : Int} (e : d.int? = some a) : d = .int a := by cases d <;> first | exact congrArg D.int (Option.some.inj e) | exact nn e
theorem isStr {a : List Nat} (e : x.str? = some a) : x = .p (.str a) := ofD (fun _ => dStr) e
theorem isBytes {a : List Nat} (e : x.bytes? = some a) : x = .p (.bytes a) := ofD (fun _ => dBytes) e
theorem isTup {a : List D} (e : x.tup? = some a) : x = .p (.tuple a) := ofD (fun _ => dTup) e
theorem isLst {a : List D} (e : x.lst? = some a) : x = .p (.list a) := ofD (fun _ => dLst) e
theorem isNone {a : Unit} (e : x.none? = some a) : x = .p .none := ofD (fun d e => by cases d <;> first | rfl | exact nn e) e
end
section
variable {φ : Ap} {h : Heap} {v u : Value} {x y : V}
inductive OwnRep (φ : Ap) (i : Nat) : Value → Prop
  | mk (a : Addr) (q : φ.ix[i]? = some a) : OwnRep φ i (.ref a)
inductive HdrRep (φ : Ap) (h : Heap) (i : Nat) : Value → Prop
  | mk (a b : Addr) (q : φ.ix[i]? = some b) (x : Hd φ.all h a b) : HdrRep φ h i (.ref a)
inductive RngRep (φ : Ap) (h : Heap) (x c : Int) (n : Nat) : Value → Prop
  | mk (a : Addr) (y : Int) (t u v : Tok) (na : a ∉ φ.all) (r : IsRange h a x y c t u v) (s : Builtin.Range.small x y c = true) (z : Builtin.Range.rangeSize x y c = n) : RngRep φ h x c n (.ref a)
noncomputable def invV (φ : Ap) (h : Heap) (v : Value) : V → Prop
  | .p d => RepD φ.all h v d
  | .own i => OwnRep φ i v
  | .hdr i => HdrRep φ h i v
  | .pat k => v = .ref (patAddr k)
  | .mat g => ∃ a, v = .ref a ∧ IsMat φ.all h a g
  | .typ t => v = .type t
  | .rng x c n => RngRep φ h x c n v
  | .any => True
theorem RepV.inv (r : RepV φ h v x) : invV φ h v x := by
  cases r with
  | p x => exact x
  | own q => exact ⟨_, q⟩
  | hdr q x => exact ⟨_, _, q, x⟩
  | pat k => exact rfl
  | mat x => exact ⟨_, rfl, x⟩
  | typ t => exact rfl
  | any => exact trivial
  | rng n r s z => exact ⟨_, _, _, _, _, n, r, s, z⟩
theorem repV_p {d : D} (x : RepV φ h v (.p d)) : RepD φ.all h v d := x.inv
theorem repV_own {i : Nat} (x : RepV φ h v (.own i)) : OwnRep φ i v := x.inv
theorem repV_hdr {i : Nat} (x : RepV φ h v (.hdr i)) : HdrRep φ h i v := x.inv
theorem repV_str {l : List Nat} (x : RepV φ h v (.p (.str l))) : ∃ t, v = .str ⟨l.toArray⟩ t := repD_str (repV_p x)
theorem repV_int {i : Int} (x : RepV φ h v (.p (.int i))) : ∃ t, v = .int i t := repD_int (repV_p x)
theorem repV_typ {t : String} (x : RepV φ h v (.typ t)) : v = .type t := x.inv
theorem rAt {y : V} (r : RepV φ h v x) (e : x = y) : invV φ h v y := (e ▸ r : RepV φ h v y).inv
theorem rAtD {d : D} (r : RepV φ h v x) (e : x = .p d) : invD φ.all h v d := (rAt r e : RepD φ.all h v d).inv
theorem rNone {a : Unit} (r : RepV φ h v x) (e : x.none? = some a) : v = .none := rAtD r (isNone e)
theorem rBool {a : Bool} (r : RepV φ h v x) (e : x.bool? = some a) : v = .bool a := rAtD r (isBool e)
theorem rBytes {a : List Nat} (r : RepV φ h v x) (e : x.bytes? = some a) : BytesRep v a := rAtD r (isBytes e)
theorem rTup {a : List D} (r : RepV φ h v x) (e : x.tup? = some a) : TupRep φ.all h v a := rAtD r (isTup e)
theorem rLst {a : List D} (r : RepV φ h v x) (e : x.lst? = some a) : ListRep φ.all h v a := rAtD r (isLst e)
theorem rTyp {a : String} (r : RepV φ h v x) (e : x.typ? = some a) : v = .type a := rAt r (isTyp e)
theorem rOwn {a : Nat} (r : RepV φ h v x) (e : x.own? = some a) : OwnRep φ a v := rAt r (isOwn e)
theorem rHdr {a : Nat} (r : RepV φ h v x) (e : x.hdr? = some a) : HdrRep φ h a v := rAt r (isHdr e)
theorem rD {d : D} (r : RepV φ h v x) (e : x.d? = some d) : RepD φ.all h v d := repV_p (isD e ▸ r)
@[elab_as_elim] theorem kInt {G : Value → Prop} {a : Int} (v : Value) (r : RepV φ h v x) (e : x.int? = some a) (k : ∀ t, G (.int a t)) : G v := by
  obtain ⟨t, rfl⟩ := repV_int (isInt' e ▸ r : RepV φ h v (.p (.int a))); exact k t
@[elab_as_elim] theorem kStr {G : Value → Prop} {a : List Nat} (v : Value) (r : RepV φ h v x) (e : x.str? = some a) (k : ∀ t, G (.str ⟨a.toArray⟩ t)) : G v := by
  obtain ⟨t, rfl⟩ := repV_str (isStr e ▸ r : RepV φ h v (.p (.str a))); exact k t
@[elab_as_elim] theorem kInt2 {α : Type} {G : Value → Value → Prop} {f : Int → Int → Option α} {z : α} (u v : Value) (e : both V.int? x y f = some z) (ru : RepV φ h u x) (rv : RepV φ h v y) (k : ∀ a b t t', f a b = some z → G (.int a t) (.int b t')) : G u v :=
  bk e fun a ea e => bk e fun b eb e => kInt (G := fun u => G u v) u ru ea fun t => kInt (G := fun v => G (.int a t) v) v rv eb fun t' => k a b t t' e
@[elab_as_elim] theorem kStr2 {α : Type} {G : Value → Value → Prop} {f : List Nat → List Nat → Option α} {z : α} (u v : Value) (e : both V.str? x y f = some z) (ru : RepV φ h u x) (rv : RepV φ h v y) (k : ∀ a b t t', f a b = some z → G (.str ⟨a.toArray⟩ t) (.str ⟨b.toArray⟩ t')) : G u v :=
  bk e fun a ea e => bk e fun b eb e => kStr (G := fun u => G u v) u ru ea fun t => kStr (G := fun v => G (.str ⟨a.toArray⟩ t) v) v rv eb fun t' => k a b t t' e
end
section
variable {hb : Heap} {φ : Ap} {σ : Sto} {h : Heap}
inductive LRep (φ : Ap) (h : Heap) (l : List D) : Value → Prop
  | mk (a : Addr) (vs : List Value) (x : h.IsList a vs.toArray) (r : RepA φ.all h vs l) : LRep φ h l (.ref a)
theorem lst_rep (O : StoOk hb φ σ h) {v : Value} {x : V} {l : List D} (r : RepV φ h v x) (e : lst? σ x = some l) : LRep φ h l v := by
  cases r with
  | p r =>
    obtain ⟨a, vs, rfl, _, x, r'⟩ := repD_list (dLst e ▸ r)
    exact ⟨a, vs, x, r'⟩
  | own q =>
    obtain ⟨a', vs, e1, e2, e3⟩ := O.sto _ l e
    obtain rfl := Option.some.inj (q.symm.trans e1)
    exact ⟨_, vs, e2.isList, e3⟩
  | _ => exact nn e
theorem notin_fresh {s : Shared} (O : StoOk hb φ σ s.heap) : s.heap.objs.size ∉ φ.all := fun m => let ⟨_, e⟩ := O.low _ m; Nat.lt_irrefl _ (Heap.lt_size e)
theorem newList_rep {s : Shared} (O : StoOk hb φ σ s.heap) {vs : List Value} {l : List D} (r : RepA φ.all s.heap vs l) {n : Nat} {dd : Option Addr} {sl : Array (Option Value)} :
    RepD φ.all (s.heap.push { cls := .type "list", dict := dd, data := .seq vs.toArray n, slots := sl }) (.ref s.heap.objs.size) (.list l) :=
  .list (notin_fresh O) ⟨_, Heap.get?_push_size _ rfl, rfl, n, rfl⟩ (r.keep fun _ _ _ e => Heap.get?_push_of_some _ e)
theorem newTup_rep {s : Shared} (O : StoOk hb φ σ s.heap) {vs : List Value} {l : List D} (r : RepA φ.all s.heap vs l) :
    RepD φ.all (s.heap.push { cls := .type "tuple", data := .seq vs.toArray }) (.ref s.heap.objs.size) (.tuple l) :=
  .tuple (notin_fresh O) ⟨_, Heap.get?_push_size _ rfl, rfl, 0, rfl⟩ (r.keep fun _ _ _ e => Heap.get?_push_of_some _ e)
end
theorem rep_app {φ : List Addr} {h : Heap} (a b : List Nat) (t : Tok) : RepD φ h (.str ((⟨a.toArray⟩ : Str) ++ (⟨b.toArray⟩ : Str)) t) (.str (a ++ b)) := by
  have e : ((⟨a.toArray⟩ : Str) ++ (⟨b.toArray⟩ : Str)) = ⟨(a ++ b).toArray⟩ := by
    show (⟨a.toArray ++ b.toArray⟩ : Str) = _
    rw [List.append_toArray]
  rw [e]; exact .str _ _
theorem small_iff {a : Int} (h : small a = true) : -9223372036854775808 < a ∧ a < 9223372036854775808 := by
  simp only [small, Bool.and_eq_true, decide_eq_true_eq] at h; exact h
theorem small_abs {a : Int} (h : small a = true) : a.natAbs < 2 ^ 64 := by have := small_iff h; omega
theorem small_pow {a : Int} (h : 2 ≤ a) (h' : a ≤ 8) : a.natAbs < 2 ^ 64 := by omega
theorem noPy {a b : Int} (h0 : 0 < b) (h : b < 9223372036854775808) : Builtin.divisionGoesByPylong a b = false := by
  unfold Builtin.divisionGoesByPylong
  have h1 : b.natAbs < 2 ^ 63 := by omega
  have h2 : b.natAbs.log2 < 63 := (Nat.log2_lt (by omega)).mpr h1
  have h3 : ¬ ((if b == 0 then 0 else b.natAbs.log2 / 30 + 1) > 300) := by
    split
    · omega
    · have : b.natAbs.log2 / 30 ≤ 63 := Nat.le_trans (Nat.div_le_self _ _) (Nat.le_of_lt h2)
      omega
  simp only [Bool.and_eq_false_iff, decide_eq_false_iff_not]
  exact .inl h3
theorem RepA.replicate {φ : List Addr} {h : Heap} {vs : List Value} {l : List D} (r : RepA φ h vs l) : ∀ n, RepA φ h (List.replicate n vs).flatten (List.replicate n l).flatten
  | 0 => by simpa using RepA.nil
  | n + 1 => by rw [List.replicate_succ, List.replicate_succ, List.flatten_cons, List.flatten_cons]; exact r.append (RepA.replicate r n)
section
variable {prog : Program} {w : World} {hb : Heap} {σ : Sto} {A : Around} {φ : Ap} {s : Shared} {Q : Value → Shared → Prop} {E : Value → Shared → Prop}
theorem op_addL (O : StoOk hb φ σ s.heap) {x y r : V} {u v : Value} (ru : RepV φ s.heap u x) (rv : RepV φ s.heap v y) (e : both (lst? σ) x y (fun a b => if decide (a.length + b.length ≤ lim) then some (.p (.list (a ++ b))) else none) = some r)
    (h : ∀ u s', Kp s s' → RepV φ s'.heap u r → Q u s') : wpAny (model prog w) A (binaryOp .Add u v) Q E s := by
  refine bk e fun a ea e => bk e fun b eb e => gk e fun hz e => ?_
  cases lst_rep O ru ea with
  | mk l vs hl ra =>
    cases lst_rep O rv eb with
    | mk l' ws hl' rb =>
      obtain ⟨⟨cls, dd, data, sl⟩, ho, hc, n, hd⟩ := id hl
      obtain ⟨⟨cls2, dd2, data2, sl2⟩, ho2, hc2, n2, hd2⟩ := id hl'
      simp only at hc hd hc2 hd2
      subst hc hd hc2 hd2
      have hsz : vs.toArray.size + ws.toArray.size ≤ sizeLine := by
        rw [sizeLine_eq, List.size_toArray, List.size_toArray, ra.length, rb.length]; exact of_decide_eq_true hz
      refine concat_meets ⟨_, ho, rfl⟩ ⟨_, ho2, rfl⟩ noFill_list_add seq_list_add PySem.F.slot_list_add PySem.F.entry_list_add (PySem.F.args_list_add_2 _ _) (list_addW l l' vs.toArray ws.toArray n n2 dd dd2 sl sl2 hsz) ⟨ho, ho2, ?_⟩
      exact hv h e _ _ (Kp.push' _ _) (.p (List.append_toArray vs ws ▸ newList_rep O (ra.append rb)))
theorem op_mulL (O : StoOk hb φ σ s.heap) {v : Value} {a : List D} {n : Int} {t : Tok} (rv : RepD φ.all s.heap v (.list a)) (h0 : 0 ≤ n) (h1 : n ≤ 100) (hz : a.length ≤ 100)
    (h : ∀ u s', Kp s s' → RepV φ s'.heap u (.p (.list (List.replicate n.toNat a).flatten)) → Q u s') : wpAny (model prog w) A (binaryOp .Mult v (.int n t)) Q E s := by
  obtain ⟨l, vs, rfl, _, hl, ra⟩ := repD_list rv
  obtain ⟨⟨cls, d, data, sl⟩, ho, hcl, k, hd⟩ := id hl
  simp only at hcl hd
  subst hcl hd
  have hlen : vs.toArray.size ≤ 100 := by simp only [List.size_toArray, ra.length]; exact hz
  have hsz' : vs.toArray.size * n.toNat ≤ 10000 := Nat.mul_le_mul hlen (show n.toNat ≤ 100 by omega)
  refine wpAny_binaryOp_repeat_ref (T := "list") (U := "int") (by decide) ⟨_, ho, rfl⟩ (fun s' => typeIs_int s' n t) noFill_list_mul F.fills_int_mul F.slot_int_rmul repeat_list F.slot_int_index.lookup
    (call_meets F.slot_int_rmul (typeIs_int s n t) F.entry_int_rmul (F.args_int_rmul_2 _ _) (lm_int_rmul_list_any n t l vs.toArray k d sl)
      ⟨ho, rfl, ⟨_, ho, rfl⟩, call_meets F.slot_list_mul ⟨_, ho, rfl⟩ F.entry_list_mul (F.args_list_mul_2 _ _)
        (lm_list_mul_any l vs.toArray k d sl n t (by simp [Builtin.List.listFitsIndex]; omega) (by omega) (by simp [Builtin.List.listTooLong, sizeLine] at hsz' ⊢; omega))
        ⟨ho, ?_⟩⟩)
  rw [listMul_foldl_if]
  exact h _ _ (Kp.push' _ _) (.p (newList_rep O (ra.replicate _)))
theorem mod2 {l : List D} {z : List Nat × List Nat} (e : strs2? l = some z) : l = [.str z.1, .str z.2] :=
  bk e fun p e1 e => bk e fun a ea e => mk' e fun b eb e => e ▸ (two_some e1).trans (dStr ea ▸ dStr eb ▸ rfl)
theorem op_bin (O : StoOk hb φ σ s.heap) {op : Operator} {x y r : V} {u v : Value} (e : binop σ op x y = some r) (ru : RepV φ s.heap u x) (rv : RepV φ s.heap v y)
    (hmod : ∀ a b t v, RepV φ s.heap v (.p (.tuple [.str a, .str b])) → a.length ≤ 400000 → b.length ≤ 400000 → (∀ u s', Kp s s' → RepV φ s'.heap u (.p (.str (a ++ [58, 32] ++ b))) → Q u s') → wpAny (model prog w) A (binaryOp .Mod (.str ⟨twoS.toArray⟩ t) v) Q E s)
    (h : ∀ u s', Kp s s' → RepV φ s'.heap u r → Q u s') : wpAny (model prog w) A (binaryOp op u v) Q E s := by
  have tk : ∀ {z : Int} {n : Nat} {t : Tok}, some (V.p (.int z)) = some r → Q (.int z t) { s with toks := n } := fun e => hv h e _ _ (Kp.toks _ _) (.p (.int _ _))
  cases op with
  | Add =>
    refine ok e (fun e => kInt2 u v e ru rv fun a b t t' e => PyProof.Rows.add_int (tk e)) fun e => ok e (fun e => kStr2 u v e ru rv fun a b t t' e => gk e fun hs e => PyProof.Rows.add_str (fun t' tk => hv h e _ _ (Kp.toks _ _) (.p (rep_app _ _ _))) (by rw [sizeLine_eq]; exact of_decide_eq_true hs)) fun e => ok e (fun e => ?_) fun e => op_addL O ru rv e h
    · refine bk e fun a ea e => bk e fun b eb e => gk e fun hs e => ?_
      obtain ⟨b, t, rfl, rfl⟩ := rBytes ru ea; obtain ⟨c, t', rfl, rfl⟩ := rBytes rv eb
      refine KBy.add_bytes (by simpa [lim] using of_decide_eq_true hs) fun t' k => hv h e _ _ (Kp.toks _ _) ?_
      have : RepD φ.all s.heap (.bytes (b ++ c) t') (.bytes ((b ++ c).toList.map (·.toNat))) := .bytes _ _
      rw [Array.toList_append, List.map_append] at this
      exact .p this
  | Sub => exact kInt2 u v e ru rv fun a b t t' e => PyProof.Rows.sub_int (tk e)
  | Mult =>
    refine ok e (fun e => kInt2 u v e ru rv fun a b t t' e => gk e fun hs e => PyProof.Rows.mul_int (tk e) (PySem.IntMulOk.of_left (PySem.intBits_le_64 (Int.lt_trans (by decide) (small_iff hs).1) (Int.lt_trans (small_iff hs).2 (by decide))))) fun e => bk e fun l el e => bk e fun n en e => gk e fun hs e => ?_
    exact kInt v rv en fun t => op_mulL O (repV_p (isLst el ▸ ru)) (of_decide_eq_true (an (an hs).1).1) (of_decide_eq_true (an (an hs).1).2) (of_decide_eq_true (an hs).2) (hv h e)
  | FloorDiv => exact kInt2 u v e ru rv fun a b t t' e => gk e fun hs e => PyProof.Rows.floordiv_int (Int.ne_of_gt (of_decide_eq_true (an hs).1)) (tk e) (.inl (noPy (of_decide_eq_true (an hs).1) (small_iff (an hs).2).2))
  | Mod =>
    refine ok e (fun e => kInt2 u v e ru rv fun a b t t' e => gk e fun hs e => PyProof.Rows.mod_int' (Int.ne_of_gt (of_decide_eq_true (an hs).1)) (tk e)) fun e => bk e fun f ef e => bk e fun l el e => bk e fun z ez e => gk e fun hs e' => ?_
    have hf : f = twoS := eq_of_beq (an (an hs).1).1
    subst hf
    exact kStr u ru ef fun t => hmod _ _ t v (mod2 ez ▸ isTup el ▸ rv) (of_decide_eq_true (an (an hs).1).2) (of_decide_eq_true (an hs).2) (hv h e')
  | Pow => exact kInt2 u v e ru rv fun a n t t' e => gk e fun hs e => PyProof.Rows.pow_int_small (of_decide_eq_true (an (an hs).1).2) (Int.le_trans (of_decide_eq_true (an hs).2) (by decide)) (small_pow (of_decide_eq_true (an (an (an hs).1).1).1) (of_decide_eq_true (an (an (an hs).1).1).2)) (tk e)
  | BitAnd => exact kInt2 u v e ru rv fun a b t t' e => PyProof.Rows.and_int (tk e)
  | BitOr => exact kInt2 u v e ru rv fun a b t t' e => PyProof.Rows.or_int (tk e)
  | LShift => exact kInt2 u v e ru rv fun a n t t' e => gk e fun hs e => PyProof.Rows.lshift_int_small (of_decide_eq_true (an (an hs).1).1) (Int.le_trans (of_decide_eq_true (an (an hs).1).2) (by decide)) (small_abs (an hs).2) (tk e)
  | _ => exact nn e
end
end
section
open PySem PySem.Calls PyProof.Rows PySem.W PySem.SeqAt
set_option autoImplicit false
-- S4
theorem toArr_inj {α : Type} {a b : List α} (h : a.toArray = b.toArray) : a = b := by simpa using congrArg Array.toList h
theorem toNat_inj_map {a b : List UInt8} (h : a.map (·.toNat) = b.map (·.toNat)) : a = b := by
  induction a generalizing b with
  | nil => cases b <;> simp_all
  | cons x a ih =>
    cases b with
    | nil => simp at h
    | cons y b =>
      simp only [List.map_cons, List.cons.injEq] at h
      rw [ih h.2, UInt8.toNat_inj.mp h.1]
theorem beq_map {a b : List UInt8} : (a == b) = (a.map (·.toNat) == b.map (·.toNat)) := by
  rw [Bool.eq_iff_iff, beq_iff_eq, beq_iff_eq]
  exact ⟨fun e => by rw [e], toNat_inj_map⟩
section
variable {A : Around} {s : Shared}
theorem RcBytes (a : Array UInt8) (t : Tok) (b : Array UInt8) (u : Tok) : RcAt A s (.bytes a t) (.bytes b u) (a.toList.map (·.toNat) == b.toList.map (·.toNat)) := fun prog w E Q h =>
  PySem.W.eq_bytes (by rw [beq_map]; exact h)
theorem EqBytes (a : Array UInt8) (t : Tok) (b : Array UInt8) (u : Tok) : EqAt A s (.bytes a t) (.bytes b u) (a.toList.map (·.toNat) == b.toList.map (·.toNat)) := fun prog w E Q h => by
  unfold eqBool
  refine wpAny_holding ?_
  refine wpAny_ite_split (fun hab => ?_) (fun _ => ?_)
  · have e : a = b := by have := eq_of_beq hab; injection this
    subst e
    exact wpAny_bind (wpAny_rule (wpAny_pure (by simpa using h)))
  · exact wpAny_bind (RcBytes a t b u prog w E _ (wpAny_truthy_bool h))
theorem EqNone : EqAt A s .none .none true := EqAt.same _
theorem RcStr (a : List Nat) (t : Tok) (b : List Nat) (u : Tok) : RcAt A s (.str ⟨a.toArray⟩ t) (.str ⟨b.toArray⟩ u) (a == b) := by
  have := RcAt.str_str (A := A) (s := s) ⟨a.toArray⟩ t ⟨b.toArray⟩ u
  rw [← str_beq] at this
  exact this
theorem EqStr (a : List Nat) (t : Tok) (b : List Nat) (u : Tok) : EqAt A s (.str ⟨a.toArray⟩ t) (.str ⟨b.toArray⟩ u) (a == b) := by
  have := EqAt.str_str (A := A) (s := s) ⟨a.toArray⟩ t ⟨b.toArray⟩ u
  rw [← str_beq] at this
  exact this
end
theorem any_k {α : Type} {P : Prop} {o : Option α} {p : α → Bool} (e : o.any p = true) (k : ∀ x, o = some x → p x = true → P) : P := by
  cases o with
  | none => exact nf e
  | some x => exact k x rfl e
theorem some_k {α : Type} {P : Prop} {o : Option α} (e : o.isSome = true) (k : ∀ x, o = some x → P) : P := by
  cases o with
  | none => exact nf e
  | some x => exact k x rfl
theorem dNone {d : D} (e : d.none? = true) : d = .none := by cases d <;> first | rfl | exact nf e
section
variable {ψ : List Addr} {h : Heap} {a : Addr} {xs ys : List Value} {e : D}
theorem tup_one (x : IsTup h a xs.toArray) (y : IsTup h a ys.toArray) : xs = ys := by
  obtain ⟨o, e, c, k, dd⟩ := x
  obtain ⟨o', e', c', k', dd'⟩ := y
  obtain rfl := Option.some.inj (e.symm.trans e')
  exact toArr_inj (Data.seq.inj (dd.symm.trans dd')).1
theorem list_one (x : h.IsList a xs.toArray) (y : h.IsList a ys.toArray) : xs = ys := by
  obtain ⟨o, e, c, k, dd⟩ := x
  obtain ⟨o', e', c', k', dd'⟩ := y
  obtain rfl := Option.some.inj (e.symm.trans e')
  exact toArr_inj (Data.seq.inj (dd.symm.trans dd')).1
theorem tup_list {P : Prop} {xs ys : Array Value} (x : IsTup h a xs) (y : h.IsList a ys) : P := by
  obtain ⟨o, e, c, k, dd⟩ := x
  obtain ⟨o', e', c', k', dd'⟩ := y
  obtain rfl := Option.some.inj (e.symm.trans e')
  rw [c] at c'; exact absurd c' (by simp)
theorem inv_str {l : List Nat} {t : Tok} {v : Value} (hv : v = .str ⟨l.toArray⟩ t) (y : RepD ψ h v e) : .str l = e := by
  cases y with
  | str l' t' => exact congrArg D.str (toArr_inj (Str.mk.inj (Value.str.inj hv).1)).symm
  | _ => exact absurd hv (by simp)
end
theorem RepD.one {φ ψ : List Addr} {h : Heap} {v : Value} {d e : D} (x : RepD φ h v d) (y : RepD ψ h v e) : d = e :=
  RepD.rec (motive_1 := fun v d _ => ∀ e, RepD ψ h v e → d = e) (motive_2 := fun vs ds _ => ∀ es, RepA ψ h vs es → ds = es)
    (fun _ y => by cases y; rfl) (fun _ _ y => by cases y; rfl) (fun _ _ _ y => by cases y; rfl) (fun _ _ _ y => inv_str rfl y) (fun _ _ _ y => by cases y; rfl)
    (fun n x r ih _ y => by cases y with
      | tuple n' x' r' => exact congrArg D.tuple (ih _ (tup_one x x' ▸ r'))
      | list n' x' r' => exact tup_list x x')
    (fun n x r ih _ y => by cases y with
      | tuple n' x' r' => exact tup_list x' x
      | list n' x' r' => exact congrArg D.list (ih _ (list_one x x' ▸ r')))
    (fun _ y => by cases y; rfl) (fun _ _ ia ir _ y => by cases y with | cons b t => rw [ia _ b, ir _ t]) x e y
theorem beqs_len : ∀ {a b : List D}, a.length ≠ b.length → D.beqs a b = false
  | [], [], h => absurd rfl h
  | [], _ :: _, _ => rfl
  | _ :: _, [], _ => rfl
  | _ :: r, _ :: t, h => by
    show (D.beq _ _ && D.beqs r t) = false
    rw [beqs_len (a := r) (b := t) (by simpa using h), Bool.and_false]
theorem beqs_all : ∀ (a b : List D), ((List.range (min a.length b.length)).all (fun j => D.beq (a.getD j .none) (b.getD j .none)) && a.length == b.length) = D.beqs a b
  | [], [] => rfl
  | [], _ :: _ => rfl
  | _ :: _, [] => rfl
  | x :: xs, y :: ys => by
    have ih := beqs_all xs ys
    have e1 : min (x :: xs).length (y :: ys).length = min xs.length ys.length + 1 := Nat.succ_min_succ _ _
    have e2 : ((x :: xs).length == (y :: ys).length) = (xs.length == ys.length) := by simp
    rw [e1, e2, List.range_succ_eq_map, List.all_cons, List.all_map, Bool.and_assoc]
    exact congrArg (D.beq x y && ·) ih
theorem eqOks_at {a : List D} : ∀ {b : List D} {n : Nat} (j : Nat), D.eqOks a b n = true → j < a.length → j < b.length → D.eqOk (a.getD j .none) (b.getD j .none) n = true := by
  induction a with
  | nil => intro b n j _ h _; exact absurd h (Nat.not_lt_zero _)
  | cons x a ih =>
    intro b n j h h1 h2
    cases b with
    | nil => exact absurd h2 (Nat.not_lt_zero _)
    | cons y b => cases j with
      | zero => exact (an h).1
      | succ j => exact ih j (an h).2 (Nat.lt_of_succ_lt_succ h1) (Nat.lt_of_succ_lt_succ h2)
theorem RepA.at {φ : List Addr} {h : Heap} {vs : List Value} {ds : List D} (r : RepA φ h vs ds) {j : Nat} (hj : j < vs.toArray.size) : RepD φ h vs.toArray[j] (ds.getD j .none) := by
  have hj' : j < vs.length := by simpa using hj
  obtain ⟨d, e, x⟩ := r.getV (k := j) (v := vs[j]) (by simp [hj'])
  have : ds.getD j .none = d := by simp [List.getD, e]
  rw [this]; simpa using x
theorem allEq' {a b : List D} (hl : a.length = b.length) : (List.range a.length).all (fun j => D.beq (a.getD j .none) (b.getD j .none)) = D.beqs a b := by
  rw [← beqs_all a b, ← hl, Nat.min_self, beq_self_eq_true, Bool.and_true]
theorem beq_refl (d : D) : D.beq d d = true :=
  D.rec (motive_1 := fun d => D.beq d d = true) (motive_2 := fun l => D.beqs l l = true) rfl (fun b => beq_self_eq_true b) (fun b => beq_self_eq_true b) (fun b => beq_self_eq_true b) (fun b => beq_self_eq_true b) (fun _ h => h) (fun _ h => h) rfl (fun _ _ h k => and_mk h k) d
theorem rcEq {φ ψ : List Addr} : ∀ (n : Nat) {A : Around} {s : Shared} {u v : Value} {d e : D}, RepD φ s.heap u d → RepD ψ s.heap v e → D.eqOk d e n = true → A.units + n < cLine →
    RcAt A s u v (D.beq d e) ∧ EqAt A s u v (D.beq d e) := by
  have both : ∀ {A : Around} {s : Shared} {l b : Addr} {d e : D}, RepD φ s.heap (.ref l) d → RepD ψ s.heap (.ref b) e → RcAt A s (.ref l) (.ref b) (D.beq d e) → RcAt A s (.ref l) (.ref b) (D.beq d e) ∧ EqAt A s (.ref l) (.ref b) (D.beq d e) := by
    intro A s l b d e x y r
    refine ⟨r, ?_⟩
    by_cases hlb : l = b
    · subst hlb
      rw [RepD.one x y, beq_refl]; exact EqAt.same _
    · exact EqAt.of_refs hlb r
  intro n
  induction n using Nat.strongRecOn with
  | ind n ih =>
  intro A s u v d e x y h hu
  cases d with
  | none =>
    obtain rfl := dNone h
    rw [repD_none x, repD_none y]; exact ⟨RcAt.none_none, EqAt.same _⟩
  | bool _ => exact nf h
  | int i =>
    refine some_k h fun j ej => ?_
    obtain rfl := dInt ej
    obtain ⟨t, rfl⟩ := repD_int x; obtain ⟨t', rfl⟩ := repD_int y; exact ⟨RcAt.int_int _ _ _ _, EqAt.int_int _ _ _ _⟩
  | str i =>
    refine some_k h fun j ej => ?_
    obtain rfl := dStr ej
    obtain ⟨t, rfl⟩ := repD_str x; obtain ⟨t', rfl⟩ := repD_str y; exact ⟨RcStr _ _ _ _, EqStr _ _ _ _⟩
  | bytes i =>
    refine some_k h fun j ej => ?_
    obtain rfl := dBytes ej
    obtain ⟨a, t, rfl, rfl⟩ := repD_bytes x; obtain ⟨b, t', rfl, rfl⟩ := repD_bytes y; exact ⟨RcBytes _ _ _ _, EqBytes _ _ _ _⟩
  | tuple a =>
    cases n with
    | zero => exact nf h
    | succ n =>
      refine any_k h fun b eb h => ?_
      obtain rfl := dTup eb
      obtain ⟨p, vs, rfl, _, hx, ra⟩ := repD_tuple x
      obtain ⟨q, ws, rfl, _, hy, rb⟩ := repD_tuple y
      refine both x y ?_
      have z := RcAt.tuples (A := A) (e := fun j => D.beq (a.getD j .none) (b.getD j .none)) hx hy (Nat.lt_of_le_of_lt (Nat.le_add_right _ _) hu) (fun j h1 h2 => (ih n (Nat.lt_succ_self n) (A := A.in1) (ra.at h1) (rb.at h2) (eqOks_at j h (ra.length ▸ h1) (rb.length ▸ h2)) (Nat.add_right_comm _ _ _ ▸ hu)).2)
      rw [List.size_toArray, List.size_toArray, ra.length, rb.length, beqs_all a b] at z
      exact z
  | list a =>
    cases n with
    | zero => exact nf h
    | succ n =>
      refine any_k h fun b eb h => ?_
      obtain rfl := dLst eb
      obtain ⟨p, vs, rfl, _, hx, ra⟩ := repD_list x
      obtain ⟨q, ws, rfl, _, hy, rb⟩ := repD_list y
      refine both x y ?_
      have hu' : A.units < cLine := Nat.lt_of_le_of_lt (Nat.le_add_right _ _) hu
      by_cases hl : a.length = b.length
      · have z := RcAt.lists (A := A) (e := fun j => D.beq (a.getD j .none) (b.getD j .none)) hx hy (ra.length.trans (hl.trans rb.length.symm)) hu' (fun j h1 h2 => (ih n (Nat.lt_succ_self n) (A := A.in1) (ra.at h1) (rb.at h2) (eqOks_at j h (ra.length ▸ h1) (rb.length ▸ h2)) (Nat.add_right_comm _ _ _ ▸ hu)).2)
        rw [List.size_toArray, ra.length, allEq' hl] at z
        exact z
      · have z := RcAt.lists_lengths (A := A) hx hy (by rw [List.size_toArray, List.size_toArray, ra.length, rb.length]; exact bne_iff_ne.mpr hl) hu'
        show RcAt _ _ _ _ (D.beqs a b)
        rw [beqs_len hl]; exact z
end
section
open PySem PySem.Calls PyProof.Rows PySem.W PySem.SeqAt
set_option autoImplicit false
set_option backward.match.sparseCases false
-- S5
theorem AOk.room {A : Around} {m : Nat} (x : AOk A m) (h : 10 ≤ m) : A.units + 40 < cLine := by rw [PyProof.Rows.cLine_is]; have := x.2.2; omega
section
variable {prog : Program} {w : World} {hb : Heap} {mg mb : Str → Option Value} {σ : Sto} {A : Around} {φ : Ap} {s : Shared} {Q : Value → Shared → Prop} {E : Value → Shared → Prop} {m : Nat} {C : Ctx}
theorem elsEq {A : Around} {s : Shared} {vs ws : List Value} {a b : List D} {χ ψ : List Addr} (ra : RepA χ s.heap vs a) (rb : RepA ψ s.heap ws b) (ok : D.eqOks a b 9 = true) (hA : A.units + 40 < cLine) :
    ∀ j (h1 : j < vs.toArray.size) (h2 : j < ws.toArray.size), EqAt A.in1 s vs.toArray[j] ws.toArray[j] (D.beq (a.getD j .none) (b.getD j .none)) := fun j h1 h2 =>
  (rcEq 9 (A := A.in1) (ra.at h1) (rb.at h2) (eqOks_at j ok (ra.length ▸ h1) (rb.length ▸ h2)) (Nat.lt_of_le_of_lt (Nat.add_le_add_left (by decide : 1 + 9 ≤ 40) A.units) hA)).2
theorem allEq {χ : List Addr} {vs : List Value} {a b : List D} {h : Heap} (ra : RepA χ h vs a) (hl : a.length = b.length) : (List.range vs.toArray.size).all (fun j => D.beq (a.getD j .none) (b.getD j .none)) = D.beqs a b := by
  rw [List.size_toArray, ra.length, allEq' hl]
theorem uLt {A : Around} (hA : A.units + 40 < cLine) : A.units < cLine := Nat.lt_of_le_of_lt (Nat.le_add_right _ _) hA
theorem q_f {b : Bool} (h : Q (.bool (b != false)) s) : Q (.bool b) s := Bool.bne_false b ▸ h
theorem q_t {b : Bool} (h : Q (.bool (b != true)) s) : Q (.bool (!b)) s := Bool.bne_true b ▸ h
theorem size_eq {χ ψ : List Addr} {h : Heap} {vs ws : List Value} {a b : List D} (ra : RepA χ h vs a) (rb : RepA ψ h ws b) (hl : a.length = b.length) : vs.toArray.size = ws.toArray.size := ra.length.trans (hl.trans rb.length.symm)
theorem size_ne {χ ψ : List Addr} {h : Heap} {vs ws : List Value} {a b : List D} (ra : RepA χ h vs a) (rb : RepA ψ h ws b) (hl : ¬ a.length = b.length) : (vs.toArray.size != ws.toArray.size) = true := by
  rw [List.size_toArray, List.size_toArray, ra.length, rb.length]; exact bne_iff_ne.mpr hl
theorem eqL (O : StoOk hb φ σ s.heap) (hA : A.units + 40 < cLine) {x y : V} {u v : Value} {a b : List D} (ru : RepV φ s.heap u x) (rv : RepV φ s.heap v y) (ea : lst? σ x = some a) (eb : lst? σ y = some b) (ok : D.eqOks a b 9 = true)
    (ne : Bool) (h : Q (.bool (D.beqs a b != ne)) s) : wpAny (model prog w) A (compareOp (if ne then .NotEq else .Eq) u v) Q E s := by
  cases lst_rep O ru ea with
  | mk p vs hx ra =>
    cases lst_rep O rv eb with
    | mk q ws hy rb =>
      by_cases hl : a.length = b.length
      · rw [← allEq ra hl] at h
        cases ne with
        | false => exact RcAt.lists (A := A) hx hy (size_eq ra rb hl) (uLt hA) (elsEq ra rb ok hA) prog w E Q (q_f h)
        | true => exact RcNeAt.lists (A := A) hx hy (size_eq ra rb hl) (uLt hA) (elsEq ra rb ok hA) prog w E Q (q_t h)
      · rw [beqs_len hl] at h
        cases ne with
        | false => exact RcAt.lists_lengths (A := A) hx hy (size_ne ra rb hl) (uLt hA) prog w E Q h
        | true => exact RcNeAt.lists_lengths (A := A) hx hy (size_ne ra rb hl) (uLt hA) prog w E Q h
theorem eqT (hA : A.units + 40 < cLine) {u v : Value} {a b : List D} (ru : TupRep φ.all s.heap u a) (rv : TupRep φ.all s.heap v b) (ok : D.eqOks a b 9 = true)
    (ne : Bool) (h : Q (.bool (D.beqs a b != ne)) s) : wpAny (model prog w) A (compareOp (if ne then .NotEq else .Eq) u v) Q E s := by
  obtain ⟨p, vs, rfl, _, hx, ra⟩ := ru
  obtain ⟨q, ws, rfl, _, hy, rb⟩ := rv
  rw [← beqs_all a b, ← ra.length, ← rb.length] at h
  cases ne with
  | false => exact RcAt.tuples (A := A) hx hy (uLt hA) (elsEq ra rb ok hA) prog w E Q (q_f h)
  | true => exact RcNeAt.tuples (A := A) hx hy (uLt hA) (elsEq ra rb ok hA) prog w E Q (q_t h)
theorem op_eq (O : StoOk hb φ σ s.heap) (hA : A.units + 40 < cLine) (ne : Bool) {x y : V} {b : Bool} {u v : Value} (e : eqOp σ ne x y = some b) (ru : RepV φ s.heap u x) (rv : RepV φ s.heap v y)
    (h : Q (.bool b) s) : wpAny (model prog w) A (compareOp (if ne then .NotEq else .Eq) u v) Q E s := by
  have hb : ∀ {z : Bool}, some z = some b → Q (.bool z) s := fun e => Option.some.inj e ▸ h
  refine ok e (fun e => bk e fun a ea e => bk e fun c ec e => ?_) fun e => ok e (fun e => kStr2 u v e ru rv fun a b t t' e => ?_) fun e => ok e (fun e => kInt2 u v e ru rv fun a b t t' e => ?_) fun e =>
    ok e (fun e => bk e fun a ea e => bk e fun c ec e => gk e fun o e => eqT hA (rTup ru ea) (rTup rv ec) o ne (hb e)) fun e => bk e fun a ea e => bk e fun c ec e => gk e fun o e => eqL O hA ru rv ea ec o ne (hb e)
  · have h1 : Q (.bool ((a == c) != ne)) s := hb e
    obtain ⟨a, t, rfl, rfl⟩ := rBytes ru ea; obtain ⟨b, t', rfl, rfl⟩ := rBytes rv ec
    rw [← beq_map] at h1
    cases ne
    · exact PySem.W.eq_bytes (q_f h1)
    · exact PySem.W.ne_bytes (q_t h1)
  · have h1 : Q (.bool ((a == b) != ne)) s := hb e
    cases ne
    · exact PySem.P.eq_str (q_f h1)
    · exact PySem.P.ne_str (q_t h1)
  · cases ne
    · exact PyProof.Rows.eq_int (q_f (hb e))
    · exact PyProof.Rows.ne_int (q_t (hb e))
noncomputable def vIs (a : Int) : Value → Bool
  | .int i _ => i == a
  | _ => false
theorem any_ints {χ : List Addr} {h : Heap} {a : Int} {vs : List Value} {l : List D} (r : RepA χ h vs l) : l.all isInt = true → vs.any (vIs a) = l.any fun d => D.beq d (.int a) :=
  r.ind (M := fun vs l => l.all isInt = true → vs.any (vIs a) = l.any fun d => D.beq d (.int a)) (fun _ => rfl) fun v d vs l x _ ih hall => by
    refine some_k (an hall).1 fun i ei => ?_
    obtain rfl := dInt ei
    obtain ⟨t, rfl⟩ := repD_int x
    rw [List.any_cons, List.any_cons, ih (an hall).2]; rfl
theorem els_int {χ : List Addr} {a : Int} {t : Tok} {vs : List Value} {l : List D} (r : RepA χ s.heap vs l) (hall : l.all isInt = true) (y : Value) (hy : y ∈ vs.toArray) : EqAt A.in1 s y (.int a t) (vIs a y) := by
  obtain ⟨k, hk, rfl⟩ := List.getElem_of_mem (List.mem_toArray.mp hy)
  obtain ⟨d, ed, rd⟩ := r.getV (List.getElem?_eq_getElem hk)
  refine some_k (List.all_eq_true.mp hall d (List.mem_of_getElem? ed)) fun i ei => ?_
  obtain ⟨t', e'⟩ := repD_int (dInt ei ▸ rd)
  rw [e']; exact EqAt.int_int _ _ _ _
theorem op_in (CO : CtxOk prog w hb mg C m) (O : StoOk hb φ σ s.heap) (hA : AOk A m) (ne : Bool) {x y : V} {b : Bool} {u v : Value} (e : inOp C σ ne x y = some b) (ru : RepV φ s.heap u x) (rv : RepV φ s.heap v y)
    (h : ∀ s', Kp s s' → Q (.bool b) s') : wpAny (model prog w) A (compareOp (if ne then .NotIn else .In) u v) Q E s := by
  refine ok e (fun e => bk e fun i ei e => bk e fun d ed e => bk e fun f ef e => bk e fun r er e => mk' e fun b' eb e => ?_) fun e => bk e fun a ea e => bk e fun l el e => gk e fun hall e => ?_
  · subst e
    obtain rfl := isBool eb
    cases rHdr rv ei with
    | mk a0 b0 q z =>
      cases ne
      · exact CO.inH f ef A φ σ _ _ u _ _ s Q E hA O (.hdr q z) (rD ru ed) er fun s' k => q_f (h s' k)
      · exact CO.notInH f ef A φ σ _ _ u _ _ s Q E hA O (.hdr q z) (rD ru ed) er fun s' k => q_t (h s' k)
  · have h0 := Option.some.inj e ▸ h s (Kp.refl s)
    cases lst_rep O rv el with
    | mk p vs hx ra =>
      refine kInt u ru ea fun t => ?_
      rw [← any_ints ra hall, ← List.any_toArray] at h0
      cases ne
      · exact in_listAt (vIs a) hx (els_int ra hall) (q_f h0)
      · exact notIn_listAt (vIs a) hx (els_int ra hall) (q_t h0)
theorem is_key {h : Heap} (ne : Bool) {x y : V} {b : Bool} {u v : Value} (e : isOp ne x y = some b) (ru : RepV φ h u x) (rv : RepV φ h v y) : plainIs u v = true ∧ ((u == v) != ne) = b := by
  refine ok e (fun e => bk e fun _ en e => ?_) fun e => ok e (fun e => bk e fun a ea e => bk e fun c ec e => ?_) fun e => bk e fun a ea e => bk e fun c ec e => ?_
  · rw [rNone rv en]
    refine ok e (fun e => mk' e fun _ ex e => ?_) fun e => ok e (fun e => mk' e fun l ex e => ?_) fun e => mk' e fun i ex e => ?_
    · rw [rNone ru ex, ← e]; exact ⟨rfl, by cases ne <;> rfl⟩
    · refine kStr u ru ex fun t => ?_
      rw [← e]; exact ⟨rfl, by cases ne <;> rfl⟩
    · cases rOwn ru ex
      rw [← e]; exact ⟨rfl, by cases ne <;> rfl⟩
  · rw [rBool ru ea, rBool rv ec, ← Option.some.inj e]; exact ⟨rfl, by cases a <;> cases c <;> rfl⟩
  · rw [rTyp ru ea, rTyp rv ec, ← Option.some.inj e]
    refine ⟨rfl, congrArg (· != ne) ?_⟩
    rw [Bool.eq_iff_iff, beq_iff_eq, beq_iff_eq]; exact ⟨fun e => Value.type.inj e, fun e => congrArg _ e⟩
theorem op_is (ne : Bool) {x y : V} {b : Bool} {u v : Value} (e : isOp ne x y = some b) (ru : RepV φ s.heap u x) (rv : RepV φ s.heap v y) (h : Q (.bool b) s) :
    wpAny (model prog w) A (compareOp (if ne then .IsNot else .Is) u v) Q E s := by
  obtain ⟨h1, h2⟩ := is_key ne e ru rv
  rw [← h2] at h
  cases ne
  · exact wpAny_is_plain h1 (q_f h)
  · exact wpAny_isNot_plain h1 (q_t h)
theorem op_cmp (CO : CtxOk prog w hb mg C m) (hm : 10 ≤ m) (O : StoOk hb φ σ s.heap) (hA : AOk A m) {op : CmpOp} {x y : V} {b : Bool} {u v : Value} (e : cmpOp C σ op x y = some b) (ru : RepV φ s.heap u x) (rv : RepV φ s.heap v y)
    (h : ∀ s', Kp s s' → Q (.bool b) s') : wpAny (model prog w) A (compareOp op u v) Q E s := by
  have h0 := h s (Kp.refl s)
  cases op with
  | Eq => exact op_eq O (hA.room hm) false e ru rv h0
  | NotEq => exact op_eq O (hA.room hm) true e ru rv h0
  | Lt => exact kInt2 u v e ru rv fun _ _ _ _ e => PyProof.Rows.lt_int (Option.some.inj e ▸ h0)
  | LtE => exact kInt2 u v e ru rv fun _ _ _ _ e => PyProof.Rows.le_int (Option.some.inj e ▸ h0)
  | Gt => exact kInt2 u v e ru rv fun _ _ _ _ e => PyProof.Rows.gt_int (Option.some.inj e ▸ h0)
  | GtE => exact kInt2 u v e ru rv fun _ _ _ _ e => PyProof.Rows.ge_int (Option.some.inj e ▸ h0)
  | Is => exact op_is false e ru rv h0
  | IsNot => exact op_is true e ru rv h0
  | In => exact op_in CO O hA false e ru rv h
  | NotIn => exact op_in CO O hA true e ru rv h
end
end
section
open PySem PySem.Calls PyProof.Rows PySem.W PySem.SeqAt
set_option autoImplicit false
-- S6
theorem subscripted_ops (slice : Expr) (o i : Value) : ∃ ops, subscripted slice false o i = operate ops (getItem o i) := by
  cases slice with
  | Slice _ _ c _ => cases c <;> exact ⟨_, rfl⟩
  | _ => exact ⟨_, rfl⟩
structure Prims (prog : Program) (w : World) (hb : Heap) : Prop where
  hmod : ∀ {A φ s} {Q : Value → Shared → Prop} {E : Value → Shared → Prop} a b t v, RepV φ s.heap v (.p (.tuple [.str a, .str b])) → a.length ≤ 400000 → b.length ≤ 400000 → (∀ u s', Kp s s' → RepV φ s'.heap u (.p (.str (a ++ [58, 32] ++ b))) → Q u s') → wpAny (model prog w) A (binaryOp .Mod (.str ⟨twoS.toArray⟩ t) v) Q E s
  meth : ∀ {C : Ctx} {σ : Sto} {n : Str} {self : V} {args : List V} {r : V}, methV C σ n self args = some r → (∀ i, self ≠ .hdr i) → ∃ id : String,
    (∀ {A φ s u pl} {Q : Value × List Value → Shared → Prop} {E : Value → Shared → Prop}, (∀ b o, hb.get? b = some o → s.heap.get? b = some o) → RepV φ s.heap u self → Q (.builtin id, [u]) s → wpAny (model prog w) A (getMethod u n pl) Q E s) ∧
    (∀ {A φ s u us} {Q : Value → Shared → Prop} {E : Value → Shared → Prop}, AOk A 10 → StoOk hb φ σ s.heap → RepV φ s.heap u self → RepVs φ s.heap us args → (∀ v s', Kp s s' → RepV φ s'.heap v r → Q v s') → wpAny (model prog w) A (call (.builtin id) (u :: us)) Q E s)
  tmat : ∀ {A φ h a g t d ks os} {Q : Bool → Shared → Prop} {E : Value → Shared → Prop}, IsMat φ h a g → Q true ⟨h, t, d, ks, os⟩ → wpAny (model prog w) A (truthy (.ref a)) Q E ⟨h, t, d, ks, os⟩
section
variable {prog : Program} {w : World} {hb : Heap} {σ : Sto} {A : Around} {φ : Ap} {s : Shared} {Q : Value → Shared → Prop} {E : Value → Shared → Prop}
theorem truth_list (O : StoOk hb φ σ s.heap) {x : V} {b : Bool} {u : Value} {Q : Bool → Shared → Prop} {l : List D} (el : lst? σ x = some l) (e : (if decide (l.length ≤ lim) then some (!l.isEmpty) else none) = some b) (r : RepV φ s.heap u x) (h : ∀ s', Kp s s' → Q b s') : wpAny (model prog w) A (truthy u) Q E s := by
  refine gk e fun hl e => ?_
  cases lst_rep O r el with
  | mk a vs hx ra =>
    refine wpAny_truthy_list hx (by have := ra.size; have : l.length ≤ 16777216 := of_decide_eq_true hl; omega) ?_
    have : (!vs.toArray.isEmpty) = b := Option.some.inj e ▸ (by cases ra <;> rfl)
    rw [this]; exact h _ (Kp.toks s _)
theorem op_truth (PR : Prims prog w hb) (O : StoOk hb φ σ s.heap) {x : V} {b : Bool} {u : Value} {Q : Bool → Shared → Prop} (e : truth σ x = some b) (r : RepV φ s.heap u x) (h : ∀ s', Kp s s' → Q b s') : wpAny (model prog w) A (truthy u) Q E s := by
  have hs : ∀ {z : Bool}, some z = some b → ∀ s', Kp s s' → Q z s' := fun e s' k => Option.some.inj e ▸ h s' k
  cases x with
  | p d =>
    have r := repV_p r
    cases d with
    | none => rw [repD_none r]; exact PyProof.Rows.truthy_none (hs e _ (Kp.refl s))
    | bool b => rw [repD_bool r]; exact wpAny_truthy_bool (hs e _ (Kp.refl s))
    | int i => obtain ⟨t, rfl⟩ := repD_int r; exact PyProof.Rows.truthy_int (hs e _ (Kp.refl s))
    | str l =>
      refine gk e fun hl e => ?_
      obtain ⟨t, rfl⟩ := repD_str r
      refine PySem.P.truthy_str (by have : l.toArray.size ≤ 16777216 := of_decide_eq_true hl; show ¬ ((l.toArray.size : Int) ≥ 2 ^ 63); omega) ?_
      have : (((⟨l.toArray⟩ : Str).length : Int) != 0) = !l.isEmpty := by cases l <;> rfl
      rw [this]; exact hs e _ (Kp.toks s _)
    | list l => exact truth_list O (x := .p (.list l)) rfl e (.p r) h
    | bytes _ => exact nn e
    | tuple _ => exact nn e
  | own i => exact bk e fun l el e => truth_list O (x := .own i) el e r h
  | mat g => obtain ⟨a, rfl, z⟩ := r.inv; exact PR.tmat z (hs e _ (Kp.refl s))
  | hdr _ => exact nn e
  | pat _ => exact nn e
  | typ _ => exact nn e
  | rng _ _ _ => exact nn e
  | any => exact nn e
theorem idx_k {P : Prop} {i : Int} {n k : Nat} (e : idx i n = some k) (h1 : 0 ≤ i → i < n → i.toNat = k → P) (h2 : i < 0 → 0 ≤ i + n → (i + n).toNat = k → P) : P := by
  unfold idx at e
  by_cases h : 0 ≤ i
  · rw [if_pos (decide_eq_true h)] at e
    exact gk e fun hc e => h1 h (of_decide_eq_true hc) (Option.some.inj e)
  · rw [if_neg (fun q => h (of_decide_eq_true q))] at e
    exact gk e fun hc e => h2 (Int.not_le.mp h) (of_decide_eq_true hc) (Option.some.inj e)
theorem idx_seq {i : Int} {n k : Nat} (e : idx i n = some k) : seqIndex? i n = some k :=
  idx_k e (fun h0 h1 hk => by unfold seqIndex?; rw [if_neg (Int.not_lt.mpr h0), if_pos (and_mk (decide_eq_true h0) (decide_eq_true h1)), hk])
    fun h0 h1 hk => by unfold seqIndex?; rw [if_pos h0, if_pos (and_mk (decide_eq_true h1) (decide_eq_true (by omega))), hk]
theorem small_out {i : Int} (h : small i = true) : (decide (i < -(2 ^ 63 : Int)) || decide (i ≥ 2 ^ 63)) = false := by
  have h := small_iff h
  rw [decide_eq_false (by omega), decide_eq_false (by omega)]; rfl
theorem small_lo {i : Int} (h : small i = true) : -(2 ^ 63) ≤ i := Int.le_of_lt (small_iff h).1
theorem small_hi {i : Int} (h : small i = true) : i < 2 ^ 63 := (small_iff h).2
theorem get_idx (O : StoOk hb φ σ s.heap) {x : V} {i : Int} {r : V} {u : Value} {t : Tok} (e : item σ x i = some r) (ru : RepV φ s.heap u x) (h : ∀ v s', Kp s s' → RepV φ s'.heap v r → Q v s') :
    ∃ T id, s.TypeIs u T ∧ typeLookup (.type T) "__getitem__" = pure (some (.builtin id)) ∧ wpAny (model prog w) A (getItem u (.int i t)) Q E s := by
  refine gk e fun hs e => ok e (fun e => bk e fun l el e => bk e fun k ek e => mk' e fun c ec e => ?_) fun e => ok e (fun e => bk e fun l el e => bk e fun k ek e => mk' e fun d ed e => ?_) fun e => bk e fun l el e => bk e fun k ek e => mk' e fun d ed e => ?_
  · refine kStr u ru el fun t' => ?_
    have hc : (seqIndex? i (⟨l.toArray⟩ : Str).length).bind ((⟨l.toArray⟩ : Str).cps[·]?) = some c := bd (idx_seq ek) ((List.getElem?_toArray ..).trans ec)
    exact ⟨"str", _, typeIs_str s _ _, slot_str_getitem.lookup, PyProof.Rows.getItem_str (small_out hs) hc (hq h e _ _ (Kp.toks _ _) (.p (.str [c] _)))⟩
  · obtain ⟨a, vs, rfl, _, hx, ra⟩ := rTup ru el
    obtain ⟨v, ev, rv⟩ := ra.get1 ed
    exact ⟨"tuple", _, hx.typeIs, slot_tuple_getitem.lookup, PyProof.Rows.getItem_tuple hx (small_lo hs) (small_hi hs) (idx_seq (ra.size ▸ ek)) ((List.getElem?_toArray ..).trans ev) (hq h e _ _ (Kp.refl _) (.p rv))⟩
  · cases lst_rep O ru el with
    | mk a vs hx ra =>
      obtain ⟨v, ev, rv⟩ := ra.get1 ed
      have h0 := hq h e _ _ (Kp.refl _) (.p rv)
      refine ⟨"list", _, hx.typeIs, list_getitem_lookup, idx_k ek (fun hi _ hk => ?_) fun hi hp hk => ?_⟩
      · exact wpAny_getItem_list hx hi (small_hi hs) ((List.getElem?_toArray ..).trans (hk ▸ ev)) h0
      · rw [← ra.size] at hp hk
        exact wpAny_getItem_list_neg hx hi (by omega) (small_lo hs) ((List.getElem?_toArray ..).trans (hk ▸ ev)) h0
theorem op_item (O : StoOk hb φ σ s.heap) {value slice : Expr} {x : V} {i : Int} {r : V} {u : Value} {t : Tok} (e : item σ x i = some r) (ru : RepV φ s.heap u x) (h : ∀ v s', Kp s s' → RepV φ s'.heap v r → Q v s') :
    wpAny (model prog w) A (subscriptTail value slice u (.int i t)) Q E s := by
  obtain ⟨T, id, hT, hl, hg⟩ := get_idx (prog := prog) (w := w) (A := A) (E := E) (t := t) O e ru h
  obtain ⟨ops, ho⟩ := subscripted_ops slice u (.int i t)
  exact tail_any hT hl hg ho
theorem RepA.pick {φ : List Addr} {h : Heap} {vs : List Value} {ds : List D} (r : RepA φ h vs ds) : ∀ ks : List Nat, RepA φ h (ks.filterMap (vs[·]?)) (ks.filterMap (ds[·]?))
  | [] => .nil
  | k :: ks => by
    rcases r.get k with ⟨e1, e2⟩ | ⟨v, d, e1, e2, rd⟩
    · rw [List.filterMap_cons_none e1, List.filterMap_cons_none e2]; exact r.pick ks
    · rw [List.filterMap_cons_some e1, List.filterMap_cons_some e2]; exact .cons rd (r.pick ks)
theorem pick_map {α β : Type} (f : α → β) (l : List α) (lo hi st : Option Int) : pick (l.map f) lo hi st = (pick l lo hi st).map f := by
  unfold pick
  simp only [List.length_map, List.map_filterMap]
  congr 1
  funext k
  simp
theorem part_rep {x : V} {o : Option Int} {u : Value} (e : part? x = some o) (r : RepV φ s.heap u x) : IsPart u o := by
  refine ok e (fun e => mk' e fun _ en e => ?_) fun e => bk e fun i ei e => gk e fun _ e => ?_
  · rw [rNone r en, ← e]; exact .none
  · rw [← Option.some.inj e]; exact kInt u r ei fun t => .int _ _
end
-- S7
section
variable {prog : Program} {w : World} {A : Around} {E : Value → Shared → Prop} {s : Shared}
theorem adjust_from0 : Builtin.Slice.sliceAdjust (some 1) none 1 ((0 : Nat) : Int) = (0, 0) := by decide
theorem sliceApplied_from0 {sl : Addr} {u : Tok} {Q : Int × Int × Nat → Shared → Prop} (hs : s.heap.IsSliceOf sl (.int 1 u) .none .none) (h : Q (0, 1, 0) s) :
    wpAny (model prog w) A (Builtin.Slice.sliceApplied (.ref sl) (pure ((0 : Nat) : Int))) Q E s := by
  obtain ⟨os, hos, hcs, hds⟩ := id hs
  unfold Builtin.Slice.sliceApplied Builtin.Slice.sliceFields
  refine wpAny_bind (wpAny_bind (wpAny_field hos hds (x := .int 1 u) rfl (wpAny_bind (wpAny_field hos hds (x := .none) rfl (wpAny_bind (wpAny_field hos hds (x := .none) rfl (wpAny_pure ?_)))))))
  refine wpAny_bind (slicePart_none ?_)
  show wpAny _ _ (if ((1 : Int) == 0) = true then _ else _) _ _ s
  rw [if_neg (by decide)]
  refine wpAny_bind (slicePart_int (wpAny_bind (slicePart_none (wpAny_bind (wpAny_pure ?_)))))
  show wpAny _ _ (match Builtin.Slice.sliceAdjust (some 1) none 1 ((0 : Nat) : Int) with | (lo, hi) => pure (lo, (1 : Int), Builtin.Slice.slicePlaces lo hi 1)) _ _ s
  rw [adjust_from0]
  exact wpAny_pure h
theorem getItem_tuple_from0 {t sl : Addr} {u : Tok} {Q : Value → Shared → Prop} (ht : IsTup s.heap t #[]) (hs : s.heap.IsSliceOf sl (.int 1 u) .none .none)
    (h : Q (.ref t) s) : wpAny (model prog w) A (getItem (.ref t) (.ref sl)) Q E s := by
  obtain ⟨os, hos, hcs, hds⟩ := id hs
  have hTs : s.TypeIs (.ref sl) "slice" := ⟨os, hos, hcs⟩
  unfold getItem
  try with_reducible refine wpAny_holding ?_
  first | refine wpAny_bind (wpAny_pure ?_) | skip
  refine wpAny_bind (wpAny_sequenceKey ht.typeIs (by decide) ?_)
  refine wpAny_bind (wpAny_callSpecial?_slot (name := Str.ofString "__getitem__") ht.typeIs slot_tuple_getitem
    (wpAny_call_entry slot_tuple_getitem ht.typeIs entry_tuple_getitem ?_ (args_tuple_getitem _ _)))
  show wpAny _ _ (Builtin.Tuple.tupleItemsOf (.ref t) >>= _) _ _ s
  refine wpAny_bind (tupleItemsOf_ ht ?_)
  refine wpAny_bind (wpAny_typeOf hTs ?_)
  rw [if_pos (by decide)]
  refine wpAny_bind (sliceApplied_from0 hs ?_)
  show wpAny _ _ (if ((0 : Int) == 0 && (1 : Int) == 1 && (0 : Nat) == (#[] : Array Value).size) = true then _ else _) _ _ s
  rw [if_pos (by decide)]
  refine wpAny_bind ?_
  unfold Builtin.Tuple.tupleIsExact
  refine wpAny_bind (wpAny_typeOf ht.typeIs (wpAny_pure ?_))
  rw [if_pos (by decide)]
  refine wpAny_bind (wpAny_rule ?_)
  exact wpAny_pure ⟨_, rfl, wpAny_pure h⟩
end
section
variable {prog : Program} {w : World} {hb : Heap} {σ : Sto} {A : Around} {φ : Ap} {s : Shared} {Q : Value → Shared → Prop} {E : Value → Shared → Prop}
theorem part_none {v : Value} {o : Option Int} (p : IsPart v o) : o = none → v = .none := by cases p with
  | none => intro _; rfl
  | int i t => intro e; cases e
theorem part_one {v : Value} {o : Option Int} {i : Int} (p : IsPart v o) : o = some i → ∃ t, v = .int i t := by cases p with
  | none => intro e; cases e
  | int j t => intro e; cases e; exact ⟨t, rfl⟩
variable {value slice : Expr} {lo hi st : Option Int} {u vl vu vs : Value} {sl : Addr}
theorem slice_b {b : List Nat} (rb : BytesRep u b) (hst : st = none) (hs : s.heap.IsSliceOf sl vl vu vs) (pl : IsPart vl lo) (pu : IsPart vu hi) (ps : IsPart vs st) (hlen : b.length ≤ 16777216)
    (h : ∀ v s', Kp s s' → RepV φ s'.heap v (.p (.bytes (pick b lo hi none))) → Q v s') : wpAny (model prog w) A (subscriptTail value slice u (.ref sl)) Q E s := by
  subst hst
  cases ps
  obtain ⟨b', t, rfl, rfl⟩ := rb
  refine tail_any (typeIs_bytes s b' t) FB.slot_bytes_getitem.lookup (getItem_meets (typeIs_bytes s b' t) (by decide) FB.slot_bytes_getitem FB.entry_bytes_getitem (FB.args_bytes_getitem_2 _ _) (KBc.meets_slice2 b' t _ pl pu) ⟨hs, ?_, fun t' k => ?_⟩) (subscripted_ops slice _ _).choose_spec
  · exact Nat.le_trans (KBc.size_picked_le b' lo hi) (by rw [sizeLine_eq]; rw [List.length_map] at hlen; exact hlen)
  · refine h _ _ (Kp.toks _ _) (.p ?_)
    have e1 : (KBy.picked b' lo hi).toList = pick b'.toList lo hi none := by
      show (Builtin.Bytes.sliced b' _ _ _).toList = _
      unfold Builtin.Bytes.sliced pick
      simp
    rw [pick_map, ← e1]
    exact .bytes _ _
theorem slice_t (O : StoOk hb φ σ s.heap) {l : List D} (rt : TupRep φ.all s.heap u l) (h1 : lo = some 1) (h2 : hi = none) (h3 : st = none) (hs : s.heap.IsSliceOf sl vl vu vs) (pl : IsPart vl lo) (pu : IsPart vu hi) (ps : IsPart vs st) (hlen : l.length ≤ 16777216)
    (h : ∀ v s', Kp s s' → RepV φ s'.heap v (.p (.tuple (l.drop 1))) → Q v s') : wpAny (model prog w) A (subscriptTail value slice u (.ref sl)) Q E s := by
  obtain rfl := part_none ps h3
  obtain rfl := part_none pu h2
  obtain ⟨t, rfl⟩ := part_one pl h1
  obtain ⟨a, us, rfl, hn, hx, ra⟩ := rt
  refine tail_any hx.typeIs slot_tuple_getitem.lookup ?_ (subscripted_ops slice _ _).choose_spec
  cases ra with
  | nil => exact getItem_tuple_from0 hx hs (h _ _ (Kp.refl s) (.p (.tuple hn hx .nil)))
  | cons rd rr => exact getItem_tuple_from (a := 1) hx hs (Nat.le_refl _) (Nat.succ_le_succ (Nat.zero_le _)) (h _ _ (Kp.push' _ _) (.p (newTup_rep O rr))) (by rw [sizeLine_eq, (RepA.cons rd rr).size]; exact hlen)
theorem slice_l {l : List D} {a : Addr} {us : List Value} (hx : s.heap.IsList a us.toArray) (ra : RepA φ.all s.heap us l) (h1 : st ≠ some 0) (hs : s.heap.IsSliceOf sl vl vu vs) (pl : IsPart vl lo) (pu : IsPart vu hi) (ps : IsPart vs st) (hlen : l.length ≤ 16777216)
    (h : RepA φ.all s.heap (pick us lo hi st) (pick l lo hi st) → Q (.ref s.heap.objs.size) { s with heap := s.heap.push { cls := .type "list", data := .seq (pick us lo hi st).toArray } }) : wpAny (model prog w) A (subscriptTail value slice (.ref a) (.ref sl)) Q E s := by
  refine tail_any hx.typeIs list_getitem_lookup (wpAny_getItem_list_slice hx hs pl pu ps h1 ?_ (by rw [sizeLine_eq, ra.size]; exact hlen)) (subscripted_ops slice _ _).choose_spec
  have e1 : slicePick us.toArray lo hi st = (pick us lo hi st).toArray := by
    unfold slicePick pick; simp
  rw [e1]
  refine h ?_
  unfold pick
  rw [ra.length]
  exact ra.pick _
theorem op_slice (O : StoOk hb φ σ s.heap) {x : V} {r : V} (e : sliced σ x lo hi st = some r) (ru : RepV φ s.heap u x)
    (hs : s.heap.IsSliceOf sl vl vu vs) (pl : IsPart vl lo) (pu : IsPart vu hi) (ps : IsPart vs st) (h : ∀ v s', Kp s s' → RepV φ s'.heap v r → Q v s') :
    wpAny (model prog w) A (subscriptTail value slice u (.ref sl)) Q E s := by
  refine ok e (fun e => bk e fun b eb e => gk e fun hc e => slice_b (rBytes ru eb) (eq_of_beq (an hc).1) hs pl pu ps (of_decide_eq_true (an hc).2) (hv h e)) fun e =>
    ok e (fun e => bk e fun l el e => gk e fun hc e => slice_t O (rTup ru el) (eq_of_beq (an (an (an hc).1).1).1) (eq_of_beq (an (an (an hc).1).1).2) (eq_of_beq (an (an hc).1).2) hs pl pu ps (of_decide_eq_true (an hc).2) (hv h e)) fun e =>
    bk e fun l el e => gk e fun hc e => ?_
  cases lst_rep O ru el with
  | mk a us hx ra => exact slice_l hx ra (bne_iff_ne.mp (an hc).1) hs pl pu ps (of_decide_eq_true (an hc).2) fun r => hv h e _ _ (Kp.push' _ _) (.p (newList_rep O r))
end
-- S8
section
variable {M : Model} {A : Around} {E : Value → Shared → Prop} {s : Shared}
theorem evalArgs_my {f : Value} {args : List (Bool × Sem Value)} {keywords : List (Option Str × Sem Value)} {Q : Args → Shared → Prop} (hall : keywords.all (·.1.isSome) = true) (hp : args.any (·.1) = false)
    (h : wpAny M A (spliced args) (fun vs s₁ => wpAny M A (evalAll (keywords.map (·.2))) (fun ks s₂ => Q ⟨vs, (keywords.filterMap (·.1)).zip ks⟩ s₂) E s₁) E s) :
    wpAny M A (evalArgs f true args keywords) Q E s := by
  cases args with
  | nil =>
    refine evalArgs_kw_nil hall ?_
    exact fun Γ p hΓ => h Γ p hΓ Γ p hΓ
  | cons a r =>
    obtain ⟨b, x⟩ := a
    simp only [List.any_cons, Bool.or_eq_false_iff] at hp
    obtain ⟨rfl, _⟩ := hp
    exact evalArgs_kw hall h
theorem wp_ite {α : Type} {Q : α → Shared → Prop} {c : Prop} {i : Decidable c} {t t' : Sem α} (h : wpAny M A t Q E s) (h' : wpAny M A t' Q E s) : wpAny M A (@ite _ c i t t') Q E s := by split <;> assumption
theorem callWith_my {pos : Pos} {f : Value} {first : List Value} {args : List (Bool × Sem Value)} {keywords : List (Option Str × Sem Value)} {Q : Value → Shared → Prop} {k : Keeper}
    (hall : keywords.all (·.1.isSome) = true) (hp : args.any (·.1) = false)
    (h : wpAny M A (spliced args) (fun vs s₁ => wpAny M A (evalAll (keywords.map (·.2))) (fun ks s₂ =>
      (∀ Q' : Keeper → Shared → Prop, Q' k s₂ → wpAny M A (keeperOf f) Q' E s₂) ∧ wpAny M A (call f (first ++ vs) ((keywords.filterMap (·.1)).zip ks)) Q E s₂) E s₁) E s) :
    wpAny M A (callWith pos f first args keywords) Q E s := by
  unfold callWith
  refine wpAny_bind (wpAny_holding (evalArgs_my hall hp (wpAny_mono h (fun vs s₁ h₁ => wpAny_mono h₁ (fun ks s₂ h₂ => wpAny_bind (wpAny_standAt ?_)) fun _ _ x => x) fun _ _ x => x)))
  have tail : ∀ {t : Sem Value}, wpAny M A t Q E s₂ → wpAny M A (t >>= fun r => holding [r] point >>= fun _ => pure r) Q E s₂ :=
    fun ht => wpAny_bind (wpAny_mono ht (fun r s₂ hr => wpAny_bind (wpAny_holding (wpAny_point (wpAny_pure hr)))) fun _ _ x => x)
  have hn : keywords.any (·.1.isNone) = false := by
    rw [List.any_eq_false]
    intro x hx
    have := List.all_eq_true.mp hall x hx
    cases hx1 : x.1 <;> simp [hx1] at this ⊢
  rw [hp, hn]
  refine wpAny_bind (h₂.1 _ ?_)
  cases k
  · exact wp_ite (tail h₂.2) (tail (Calls.wpAny_keep h₂.2))
  · exact wp_ite (tail h₂.2) (tail (Calls.wpAny_keep h₂.2))
  · exact tail h₂.2
  · exact tail (wpAny_operating h₂.2)
theorem bor4 {a b c d : Bool} (h : a = true) : (a || b || c || d) = true := by rw [h]; rfl
theorem attributeBase_eq {o : Expr} {attr : Str} {env : Env} {whole : Sem Value} (hs : notSuper o = true) : attributeBase o attr env whole = whole := by
  cases o with
  | Call f a k p =>
    cases f with
    | Name id q =>
      cases a with
      | cons _ _ => rfl
      | nil => cases k with
        | cons _ _ => rfl
        | nil =>
          have h1 : (id != "super") = true := by
            cases hb : id == ("super" : Str) with
            | false => exact congrArg not hb
            | true =>
              have : notSuper (.Call (.Name id q) [] [] p) = !(id == ("super" : Str) && true) := rfl
              rw [this, hb] at hs; exact nf hs
          exact if_pos (bor4 h1)
    | _ => rfl
  | _ => rfl
theorem attributeBase_my {o : Expr} {attr : Str} {env : Env} {whole : Sem Value} {Q : Value → Shared → Prop} (hs : notSuper o = true) (h : wpAny M A whole Q E s) : wpAny M A (attributeBase o attr env whole) Q E s := (attributeBase_eq hs).symm ▸ h
end
theorem starEach_cons {e : Expr} {r : List Expr} {env : Env} (h : ∀ x p, e ≠ .Starred x p) : starEach (e :: r) env = (false, eval e env) :: starEach r env := by
  cases e <;> first | rfl | exact absurd rfl (h _ _)
theorem not_star {e : Expr} (h : star? e = false) : ∀ x p, e ≠ .Starred x p := fun x p q => by subst q; exact nf h.symm
theorem evs_k {P : Prop} {f : Expr → Option V} {e : Expr} {r : List Expr} {vs : List V} (h : evs f (e :: r) = some vs) (k : (∀ x p, e ≠ .Starred x p) → ∀ v vs', f e = some v → evs f r = some vs' → v :: vs' = vs → P) : P := by
  replace h : cond (star? e) none _ = some vs := h
  cases hs : star? e with
  | true => rw [hs] at h; exact nn h
  | false => rw [hs] at h; exact bk h fun v e1 h => mk' h fun vs' e2 e3 => k (not_star hs) v vs' e1 e2 e3
theorem evs_cons {f : Expr → Option V} {e : Expr} {r : List Expr} {vs : List V} (h : evs f (e :: r) = some vs) : (∀ x p, e ≠ .Starred x p) ∧ ∃ v vs', f e = some v ∧ evs f r = some vs' ∧ vs = v :: vs' := evs_k h fun a v vs' b c d => ⟨a, v, vs', b, c, d.symm⟩
theorem evs_plain {f : Expr → Option V} {env : Env} {pos : Pos} : ∀ {es : List Expr} {vs : List V}, evs f es = some vs → (backTo pos (starEach es env)).any (·.1) = false
  | [], _, _ => rfl
  | e :: r, _, h => by
    obtain ⟨a, v, vs', _, b, _⟩ := evs_cons h
    rw [starEach_cons a]
    simpa [backTo] using evs_plain (pos := pos) (env := env) b
section
variable {prog : Program} {w : World} {hb : Heap} {mg mb : Str → Option Value} {C : Ctx} {R : Rec} {m : Nat} {sc : Sc} {ρ : Rho} {σ : Sto} {A : Around} {φ : Ap} {env : Env} {s : Shared} {Q : Value → Shared → Prop} {E : Value → Shared → Prop}
theorem evs_run (hR : SE prog w hb R m) (hA : AOk A m) {pos : Pos} : ∀ {es : List Expr} {vs : List V} {s : Shared} {Q : List Value → Shared → Prop}, evs (R.e sc ρ σ) es = some vs → StoOk hb φ σ s.heap → EnvOk env sc φ ρ s.heap →
    (∀ us s', Kp s s' → RepVs φ s'.heap us vs → Q us s') → wpAny (model prog w) A (spliced (backTo pos (starEach es env))) Q E s
  | [], _, s, Q, e, O, V, h => by
    cases e
    exact Calls.spliced_nil (h _ _ (Kp.refl s) .nil)
  | x :: r, _, s, Q, e, O, V, h => by
    refine evs_k e fun a v vs' ex er e3 => ?_
    subst e3
    rw [starEach_cons a]
    refine Calls.spliced_cons (hR sc ρ σ x v ex A φ env s _ E hA O V fun u s₁ k₁ r₁ => ?_)
    refine evs_run hR hA er (O.kp k₁) (V.kp k₁) fun us s₂ k₂ r₂ => ?_
    exact h _ _ (k₁.trans k₂) (.cons (r₁.keep (k₂.kb _)) r₂)
theorem RepVs.pures {h : Heap} {us : List Value} {vs : List V} (r : RepVs φ h us vs) : ∀ {ds : List D}, pures vs = some ds → RepA φ.all h us ds := by
  induction r with
  | nil => intro ds e; rw [← Option.some.inj e]; exact .nil
  | cons a r ih => intro ds e; exact bk e fun d e1 e => mk' e fun ds' e2 e3 => e3 ▸ .cons (rD a e1) (ih e2)
theorem RepVs.length {h : Heap} {us : List Value} {vs : List V} (r : RepVs φ h us vs) : us.length = vs.length := by
  induction r with
  | nil => rfl
  | cons _ _ ih => simp [ih]
theorem evs_length {f : Expr → Option V} : ∀ {es : List Expr} {vs : List V}, evs f es = some vs → vs.length = es.length
  | [], _, h => by cases h; rfl
  | e :: r, _, h => by
    obtain ⟨_, v, vs', _, b, rfl⟩ := evs_cons h
    simp [evs_length b]
theorem se_CallName (B : Base hb mg mb) (CO : CtxOk prog w hb mg C m) (hR : SE prog w hb R m) (hA : AOk A m) {f : Str} {p pos : Pos} {args : List Expr} {v : V} (e : callV C R sc ρ σ f args = some v) (O : StoOk hb φ σ s.heap) (V : EnvOk env sc φ ρ s.heap)
    (h : ∀ u s', Kp s s' → RepV φ s'.heap u v → Q u s') : wpAny (model prog w) A (eval (.Call (.Name f p) args [] pos) env) Q E s := by
  refine bk e fun g eg e => gk e fun hk e => bk e fun vs ev e => ?_
  obtain ⟨fv, hg, ⟨k, hK⟩, hc⟩ := CO.fn f g eg
  refine wpAny_Call_Name_kw (glob_load B O.base V (eq_of_beq (an (an hk).2).1) (Bool.not_eq_true' _ ▸ (an (an hk).2).2) hg ?_)
  refine callWith_my (k := k) rfl (evs_plain ev) (evs_run hR hA ev O V fun us s₁ k₁ r₁ => wpAny_evalAll_nil ⟨fun Q' hq => hK s₁ A Q' E (O.kp k₁).base hq, ?_⟩)
  exact hc A φ σ us vs v s₁ Q E hA (O.kp k₁) r₁ e fun u s' k' r' => h u s' (k₁.trans k') r'
theorem all_still {args : List Expr} {pos : Pos} (h : (backTo pos (starEach args env)).any (·.1) = false) : (backTo pos (starEach args env)).all (fun x => !x.1) = true := by
  rw [List.all_eq_true]
  intro x hx
  have := List.any_eq_false.mp h x hx
  simpa using this
theorem meth0_tail (hR : SE prog w hb R m) (hA : AOk A m) {o : Expr} {ap pos : Pos} {args : List Expr} {vs : List V} {f u : Value} {k : Keeper} {few : Bool} (hline : (ap.endLine == pos.line) = true) (ea : evs (R.e sc ρ σ) args = some vs) (O : StoOk hb φ σ s.heap) (V : EnvOk env sc φ ρ s.heap)
    (hK : ∀ (s : Shared) (Q' : Keeper → Shared → Prop), (∀ b x, hb.get? b = some x → s.heap.get? b = some x) → Q' k s → wpAny (model prog w) A (keeperOf f) Q' E s)
    (hc : ∀ us s₂, Kp s s₂ → StoOk hb φ σ s₂.heap → RepVs φ s₂.heap us vs → wpAny (model prog w) A (call f (u :: us) []) Q E s₂) :
    wpAny (model prog w) A (methodCallPos few o env ap pos >>= fun cp => callWith cp f [u] (backTo pos (starEach args env)) (backToKw pos (keywordEach [] env))) Q E s := by
  have hpos : methodCallPos few o env ap pos = pure pos := by unfold methodCallPos; rw [hline, Bool.or_true, if_pos rfl]
  exact wpAny_bind (wpAny_of_eq hpos (callWith_my (k := k) rfl (evs_plain ea) (evs_run hR hA ea O V fun us s₂ k₂ r₂ => wpAny_evalAll_nil ⟨fun Q' hq => hK s₂ Q' (O.kp k₂).base hq, hc us s₂ k₂ (O.kp k₂) r₂⟩)))
theorem meth1_tail (hR : SE prog w hb R m) (hA : AOk A m) {o x : Expr} {ap pos p : Pos} {nm : Str} {args : List Expr} {vs : List V} {d : V} {f u : Value} {k : Keeper} {few : Bool} (hline : (ap.endLine == pos.line) = true) (ea : evs (R.e sc ρ σ) args = some vs) (ed : R.e sc ρ σ x = some d) (O : StoOk hb φ σ s.heap) (V : EnvOk env sc φ ρ s.heap)
    (hK : ∀ (s : Shared) (Q' : Keeper → Shared → Prop), (∀ b x, hb.get? b = some x → s.heap.get? b = some x) → Q' k s → wpAny (model prog w) A (keeperOf f) Q' E s)
    (hc : ∀ us v s₂, Kp s s₂ → StoOk hb φ σ s₂.heap → RepVs φ s₂.heap us vs → RepV φ s₂.heap v d → wpAny (model prog w) A (call f (u :: us) [(nm, v)]) Q E s₂) :
    wpAny (model prog w) A (methodCallPos few o env ap pos >>= fun cp => callWith cp f [u] (backTo pos (starEach args env)) (backToKw pos (keywordEach [⟨some nm, x, p⟩] env))) Q E s := by
  have hpos : methodCallPos few o env ap pos = pure pos := by unfold methodCallPos; rw [hline, Bool.or_true, if_pos rfl]
  exact wpAny_bind (wpAny_of_eq hpos (callWith_my (k := k) rfl (evs_plain ea) (evs_run hR hA ea O V fun us s₂ k₂ r₂ => wpAny_evalAll_cons (wpAny_bind (hR sc ρ σ x d ed A φ env s₂ _ E hA (O.kp k₂) (V.kp k₂) fun v s₃ k₃ r₃ =>
    wpAny_bind (wpAny_standAt (wpAny_pure (wpAny_evalAll_nil ⟨fun Q' hq => hK s₃ Q' (O.kp (k₂.trans k₃)).base hq, hc us v s₃ (k₂.trans k₃) (O.kp (k₂.trans k₃)) (r₂.keep (k₃.kb _)) r₃⟩)))))))) 
theorem meth0_run (PR : Prims prog w hb) (hm : 10 ≤ m) (CO : CtxOk prog w hb mg C m) (hR : SE prog w hb R m) (hA : AOk A m) {o : Expr} {n : Str} {ap pos : Pos} {args : List Expr} {self v : V} {vs : List V} {u : Value} {few : Bool} {pl : Sem Bool} (hn : (n == cvtN) = false) (hline : (ap.endLine == pos.line) = true)
    (ea : evs (R.e sc ρ σ) args = some vs) (e : methV C σ n self vs = some v) (O : StoOk hb φ σ s.heap) (V : EnvOk env sc φ ρ s.heap) (r : RepV φ s.heap u self) (h : ∀ u s', Kp s s' → RepV φ s'.heap u v → Q u s') :
    wpAny (model prog w) A (getMethod u n pl) (fun z s₁ => wpAny (model prog w) A (methodCallPos few o env ap pos >>= fun cp => callWith cp z.1 z.2 (backTo pos (starEach args env)) (backToKw pos (keywordEach [] env))) Q E s₁) E s := by
  have other : (∀ i, self ≠ .hdr i) → wpAny (model prog w) A (getMethod u n pl) (fun z s₁ => wpAny (model prog w) A (methodCallPos few o env ap pos >>= fun cp => callWith cp z.1 z.2 (backTo pos (starEach args env)) (backToKw pos (keywordEach [] env))) Q E s₁) E s := fun hh => by
    obtain ⟨id, hget, hcall⟩ := PR.meth e hh
    exact hget O.base r (meth0_tail (k := .machine) hR hA hline ea O V (fun _ _ _ hq => wpAny_pure hq) fun us s₂ k₂ O₂ r₂ => hcall (hA.less hm) O₂ (r.keep (k₂.kb _)) r₂ fun u s' k r => h u s' (k₂.trans k) r)
  cases self with
  | hdr i =>
    refine bk e fun g eg e => ?_
    obtain ⟨fv, ⟨k, hK⟩, hcall, hget⟩ := CO.methH n g eg
    cases repV_hdr r with
    | mk a b q z =>
      refine hget A φ σ a i s pl _ E hA O (.hdr q z) (meth0_tail (k := k) hR hA hline ea O V (fun s' Q' hb' hq => hK s' A Q' E hb' hq) fun us s₂ k₂ O₂ r₂ => ?_)
      exact hcall A φ σ (.ref a :: us) (.hdr i :: vs) [] [] v s₂ Q E hA O₂ (.cons (r.keep (k₂.kb _)) r₂) .nil (.inl ⟨rfl, hn⟩) ((List.append_nil _).symm ▸ e) fun u s' k r => h u s' (k₂.trans k) r
  | _ => exact other fun _ q => by cases q
theorem meth1_run (CO : CtxOk prog w hb mg C m) (hR : SE prog w hb R m) (hA : AOk A m) {o x : Expr} {n : Str} {ap pos p : Pos} {args : List Expr} {i : Nat} {v d : V} {vs : List V} {u : Value} {few : Bool} {pl : Sem Bool} (hn : (n == cvtN) = true) (hline : (ap.endLine == pos.line) = true)
    (ea : evs (R.e sc ρ σ) args = some vs) (ed : R.e sc ρ σ x = some d) (e : methV C σ n (.hdr i) (vs ++ [d]) = some v) (O : StoOk hb φ σ s.heap) (V : EnvOk env sc φ ρ s.heap) (r : HdrRep φ s.heap i u) (h : ∀ u s', Kp s s' → RepV φ s'.heap u v → Q u s') :
    wpAny (model prog w) A (getMethod u n pl) (fun z s₁ => wpAny (model prog w) A (methodCallPos few o env ap pos >>= fun cp => callWith cp z.1 z.2 (backTo pos (starEach args env)) (backToKw pos (keywordEach [⟨some "name", x, p⟩] env))) Q E s₁) E s := by
  refine bk e fun g eg e => ?_
  obtain ⟨fv, ⟨k, hK⟩, hcall, hget⟩ := CO.methH n g eg
  cases r with
  | mk a b q z =>
    refine hget A φ σ a i s pl _ E hA O (.hdr q z) (meth1_tail (k := k) hR hA hline ea ed O V (fun s' Q' hb' hq => hK s' A Q' E hb' hq) fun us kv s₂ k₂ O₂ r₂ r₃ => ?_)
    exact hcall A φ σ (.ref a :: us) (.hdr i :: vs) [("name", kv)] [d] v s₂ Q E hA O₂ (.cons ((RepV.hdr q z).keep (k₂.kb _)) r₂) (.cons r₃ .nil) (.inr ⟨hn, kv, rfl⟩) e fun u s' k r => h u s' (k₂.trans k) r
theorem form_ok {args : List Expr} {pos : Pos} {n : Nat} {kws : List Keyword} (hplain : (backTo pos (starEach args env)).any (·.1) = false) (hk : (backToKw pos (keywordEach kws env)).all (·.1.isSome) = true) (hn : n ≤ 28) : methodCallForm n (backTo pos (starEach args env)) (backToKw pos (keywordEach kws env)) = true := by
  unfold methodCallForm
  rw [hk, all_still hplain]
  exact decide_eq_true (by split <;> omega)
theorem kw_inv {f : Expr → Option V} {kws : List Keyword} {ks : List V} (ek : kwAll f kws = some ks) (hne : kws.isEmpty = false) : ∃ x p, kws = [⟨some "name", x, p⟩] := by
  cases kws with
  | nil => exact nf hne.symm
  | cons kw rest =>
    obtain ⟨nm, x, p⟩ := kw
    refine bk ek fun nm' en ek => gk ek fun hq _ => ⟨x, p, ?_⟩
    rw [show nm = some nm' from en, eq_of_beq (an hq).1, List.isEmpty_iff.mp (an hq).2]
theorem callM_kws {o : Expr} {n : Str} {args : List Expr} {kws : List Keyword} {c : Bool} {v : V} (e : callM C R sc ρ σ o n args kws c = some v) : kws = [] ∨ ∃ x p, kws = [⟨some "name", x, p⟩] :=
  gk e fun _ e => bk e fun _ _ e => bk e fun _ _ e => ok e (fun e => gk e fun hk _ => .inl (List.isEmpty_iff.mp (an hk).1)) fun e => gk e fun hk e => bk e fun _ _ e => bk e fun _ ek _ => .inr (kw_inv ek (Bool.not_eq_true' _ ▸ (an hk).1))
theorem meth_open (hR : SE prog w hb R m) (hA : AOk A m) {o : Expr} {n : Str} {ap pos : Pos} {args : List Expr} {kws : List Keyword} {self : V} (hs : notSuper o = true) (eo : R.e sc ρ σ o = some self) (hf : methodCallForm (args.length + kws.length) (backTo pos (starEach args env)) (backToKw pos (keywordEach kws env)) = true) (O : StoOk hb φ σ s.heap) (V : EnvOk env sc φ ρ s.heap)
    (h : ∀ u s₁, Kp s s₁ → RepV φ s₁.heap u self → wpAny (model prog w) A (getMethod u n (do return (← importBound o env).getD true)) (fun z s₁ => wpAny (model prog w) A (methodCallPos true o env ap pos >>= fun cp => callWith cp z.1 z.2 (backTo pos (starEach args env)) (backToKw pos (keywordEach kws env))) Q E s₁) E s₁) :
    wpAny (model prog w) A (eval (.Call (.Attribute o n ap) args kws pos) env) Q E s := by
  rw [arm_eval_Call]
  refine wpAny_bind (attributeBase_my hs (hR sc ρ σ o self eo A φ env s _ E hA O V fun u s₁ k₁ r₁ => wpAny_bind (wpAny_standAt ?_)))
  unfold methodCall
  rw [hf]
  exact wpAny_bind (wpAny_holding (h u s₁ k₁ r₁))
theorem se_CallMeth (PR : Prims prog w hb) (hm : 10 ≤ m) (CO : CtxOk prog w hb mg C m) (hR : SE prog w hb R m) (hA : AOk A m) {o : Expr} {n : Str} {ap pos : Pos} {args : List Expr} {kws : List Keyword} {v : V} (e : callM C R sc ρ σ o n args kws (ap.endLine == pos.line) = some v) (O : StoOk hb φ σ s.heap) (V : EnvOk env sc φ ρ s.heap)
    (h : ∀ u s', Kp s s' → RepV φ s'.heap u v → Q u s') : wpAny (model prog w) A (eval (.Call (.Attribute o n ap) args kws pos) env) Q E s := by
  rcases callM_kws e with rfl | ⟨x, p, rfl⟩
  · refine gk e fun hc e => bk e fun self eo e => bk e fun vs ea e => ok e (fun e => gk e fun hk e => ?_) fun e => gk e fun hk _ => nf (an hk).1
    refine meth_open hR hA (an (an hc).1).1 eo (form_ok (evs_plain ea) rfl (Nat.le_trans (Nat.le_of_lt (of_decide_eq_true (an (an hc).1).2)) (by decide : 20 ≤ 28))) O V fun u s₁ k₁ r₁ => ?_
    exact meth0_run PR hm CO hR hA (Bool.not_eq_true' _ ▸ (an hk).2) (an hc).2 ea e (O.kp k₁) (V.kp k₁) r₁ fun u s' k r => h u s' (k₁.trans k) r
  · refine gk e fun hc e => bk e fun self eo e => bk e fun vs ea e => ok e (fun e => gk e fun hk _ => nf (an hk).1) fun e => gk e fun hk e => bk e fun i ei e => bk e fun ks ek e => mk' ek fun d ed ek => ?_
    refine meth_open hR hA (an (an hc).1).1 eo (form_ok (evs_plain ea) rfl (Nat.le_trans (Nat.succ_le_of_lt (of_decide_eq_true (an (an hc).1).2)) (by decide : 20 ≤ 28))) O V fun u s₁ k₁ r₁ => ?_
    exact meth1_run CO hR hA (an hk).2 (an hc).2 ea ed (ek ▸ e) (O.kp k₁) (V.kp k₁) (rHdr r₁ ei) fun u s' k r => h u s' (k₁.trans k) r
end
-- S9
theorem ns_one {h : Heap} {a : Addr} {m m' : Str → Option Value} (x : h.Ns a m) (y : h.Ns a m') : m = m' := x.eq_nsMap.trans y.eq_nsMap.symm
theorem cell_one {h : Heap} {a : Addr} {m m' : Option Value} (x : h.IsCell a m) (y : h.IsCell a m') : m = m' := by
  obtain ⟨o, e, d⟩ := x; obtain ⟨o', e', d'⟩ := y
  rw [e] at e'; cases e'
  rw [d] at d'; injection d'
theorem ns_ne_cell {h : Heap} {a : Addr} {m : Str → Option Value} {v : Option Value} (x : h.Ns a m) (y : h.IsCell a v) : False := by
  obtain ⟨o, es, ep, e, d, _⟩ := x; obtain ⟨o', e', d'⟩ := y
  rw [e] at e'; cases e'
  rw [d] at d'; cases d'
theorem lookup_rset : ∀ (ρ : Rho) (x y : Str) (v : V), (rset ρ x v).lookup y = if y = x then some v else ρ.lookup y
  | [], x, y, v => by
    simp only [rset, List.lookup_cons, List.lookup_nil]
    by_cases h : y = x
    · subst h; simp
    · have : (y == x) = false := beq_eq_false_iff_ne.mpr h
      simp [this, h]
  | (z, u) :: r, x, y, v => by
    unfold rset
    by_cases h : x = z
    · subst h
      simp only [beq_self_eq_true, if_true, List.lookup_cons]
      by_cases h' : y = x
      · subst h'; simp
      · have : (y == x) = false := beq_eq_false_iff_ne.mpr h'
        simp [this, h']
    · have hb : (x == z) = false := beq_eq_false_iff_ne.mpr h
      simp only [hb, Bool.false_eq_true, if_false, List.lookup_cons, lookup_rset r x y v]
      by_cases h' : y = z
      · subst h'; simp only [beq_self_eq_true]
        have : ¬ y = x := fun e => h e.symm
        simp [this]
      · have : (y == z) = false := beq_eq_false_iff_ne.mpr h'
        simp only [this]
structure FrOk (env : Env) (sc : Sc) (κ : List Addr) (h : Heap) : Prop where
  ns : ∃ m, h.Ns env.locals m
  loc : env.locals ∈ κ
  cell : ∀ x, sc.lookup x = some .cell → ∃ c, env.cells.lookup x = some c ∧ c ∈ κ ∧ (∃ ov, h.IsCell c ov) ∧ ∀ y, env.cells.lookup y = some c → y = x
theorem FrOk.kp {env : Env} {sc : Sc} {κ : List Addr} {s s' : Shared} (x : FrOk env sc κ s.heap) (k : Kp s s') : FrOk env sc κ s'.heap :=
  ⟨let ⟨m, n⟩ := x.ns; ⟨m, n.keeps k.all⟩, x.loc, fun n e => let ⟨c, a, b, ⟨ov, d⟩, f⟩ := x.cell n e; ⟨c, a, b, ⟨ov, d.keeps k.all⟩, f⟩⟩
noncomputable def Pk (κ : List Addr) (s s' : Shared) : Prop := ∃ h' tk, s' = { s with heap := h', toks := tk } ∧ Kb κ s.heap h'
theorem Pk.refl (κ : List Addr) (s : Shared) : Pk κ s s := ⟨s.heap, s.toks, rfl, fun _ _ _ e => e⟩
theorem Pk.trans {κ : List Addr} {a b c : Shared} (x : Pk κ a b) (y : Pk κ b c) : Pk κ a c := by
  obtain ⟨h, t, rfl, k⟩ := x
  obtain ⟨h', t', rfl, k'⟩ := y
  exact ⟨h', t', rfl, k.trans k'⟩
theorem Kp.pk {κ : List Addr} {s s' : Shared} (x : Kp s s') : Pk κ s s' := by
  obtain ⟨h, t, rfl, k⟩ := x
  exact ⟨h, t, rfl, fun b o _ e => k b o e⟩
theorem Pk.kb {κ : List Addr} {s s' : Shared} (x : Pk κ s s') : Kb κ s.heap s'.heap := by
  obtain ⟨h, t, rfl, k⟩ := x
  exact k
theorem Pk.all {φ : Ap} {κ : List Addr} {s s' : Shared} (x : Pk κ s s') (hκ : ∀ a ∈ κ, a ∈ φ.pr) : Kb φ.all s.heap s'.heap := x.kb.mono fun a m => List.mem_append_right _ (hκ a m)
theorem StoOk.pk {hb : Heap} {φ : Ap} {κ : List Addr} {σ : Sto} {s s' : Shared} (x : StoOk hb φ σ s.heap) (k : Pk κ s s') (hκ : ∀ a ∈ κ, a ∈ φ.pr) (l : ∀ a ∈ κ, ∃ o, s'.heap.get? a = some o) : StoOk hb φ σ s'.heap := by
  have kb := k.all hκ
  have k := k.kb
  refine ⟨fun b o e => kb b o (fun m => by have h0 := x.high b m; rw [e] at h0; cases h0) (x.base b o e), x.high, fun a m => ?_, x.nd, x.disj, x.len, fun i l e => ?_⟩
  · by_cases m' : a ∈ κ
    · exact l a m'
    · obtain ⟨o, e⟩ := x.low a m
      exact ⟨o, k a o m' e⟩
  · obtain ⟨a, vs, e1, e2, e3⟩ := x.sto i l e
    exact ⟨a, vs, e1, e2.at fun o e => k _ o (fun m => x.disj a (List.mem_of_getElem? e1) (hκ a m)) e, e3.keep kb⟩
section
variable {prog : Program} {w : World} {hb : Heap} {σ : Sto} {A : Around} {φ : Ap} {κ : List Addr} {s : Shared} {env : Env} {sc : Sc} {ρ : Rho} {E : Value → Shared → Prop}
theorem kindOf_store (VE : EnvOk env sc φ ρ s.heap) {x : Str} {k : NameKind} (h : sc.lookup x = some k) (hk : k ≠ .free) : env.kindOf x = some k := by
  rcases VE.sc x k h with e | ⟨e, _⟩
  · exact e
  · exact absurd e hk
theorem store_okH {Q : Unit → Shared → Prop} (O : StoOk hb φ σ s.heap) (VE : EnvOk env sc φ ρ s.heap) (hκ : ∀ a ∈ κ, a ∈ φ.pr) (F : FrOk env sc κ s.heap) {x : Str} (hx : canStore sc x = true) {u : Value} {v : V} (r : RepV φ s.heap u v)
    (h : ∀ s', Pk κ s s' → StoOk hb φ σ s'.heap → EnvOk env sc φ (rset ρ x v) s'.heap → FrOk env sc κ s'.heap → (∀ y z, y ≠ x → Held env s.heap y z → Held env s'.heap y z) → Q () s') : wpAny (model prog w) A (storeName env x u) Q E s := by
  simp only [canStore, Bool.and_eq_true, Bool.or_eq_true, beq_iff_eq, Bool.not_eq_true'] at hx
  obtain ⟨hx, hcd⟩ := hx
  obtain ⟨m, hn⟩ := F.ns
  -- one object turned, at a: all else stands
  have fin : ∀ (a : Addr) (s' : Shared), a ∈ κ → (∃ tk h', s' = { s with heap := h', toks := tk }) → Heap.SameBut a s.heap s'.heap → (∃ o, s'.heap.get? a = some o) → (∃ m, s'.heap.Ns env.locals m) →
      Held env s'.heap x u → (∀ y z, y ≠ x → Held env s.heap y z → Held env s'.heap y z) →
      (∀ y c, sc.lookup y = some .cell → env.cells.lookup y = some c → (∃ ov, s.heap.IsCell c ov) → ∃ ov, s'.heap.IsCell c ov) → Q () s' := by
    intro a s' ha hs' hsb hex hns hux hoth hcells
    have pk : Pk κ s s' := by
      obtain ⟨tk, h', rfl⟩ := hs'
      exact ⟨h', tk, rfl, fun b o hb e => (hsb.2 b (fun e' => hb (e' ▸ ha))).trans e⟩
    refine h s' pk (O.pk pk hκ fun b hb => ?_) ⟨VE.kind, VE.glob, VE.blt, VE.sc, fun y z hy hd => ?_⟩ ⟨hns, F.loc, fun y hy => ?_⟩ hoth
    · by_cases e : b = a
      · exact e ▸ hex
      · obtain ⟨o, eo⟩ := O.low b (List.mem_append_right _ (hκ b hb))
        exact ⟨o, (hsb.2 b e).trans eo⟩
    · rw [lookup_rset] at hy
      split at hy
      · rename_i e
        cases hy; subst e
        exact ⟨u, hux, r.keep (pk.all hκ)⟩
      · rename_i e
        obtain ⟨u', a', b'⟩ := VE.vars y z hy hd
        exact ⟨u', hoth y u' e a', b'.keep (pk.all hκ)⟩
    · obtain ⟨c, e1, e2, e3, e4⟩ := F.cell y hy
      exact ⟨c, e1, e2, hcells y c hy e1 e3, e4⟩
  rcases hx with hx | hx
  · have hk := kindOf_store VE hx (by decide)
    refine wpAny_storeName_local hk hn (fun h' hn' hs' => ?_) (by rw [VE.kind]; rfl)
    refine fin env.locals _ F.loc ⟨_, _, rfl⟩ hs' ?_ ⟨_, hn'⟩ (.inl ⟨hk, _, hn', by simp⟩) ?_ ?_
    · obtain ⟨o, _, _, e, _⟩ := hn'
      exact ⟨o, e⟩
    · intro y z hy hz
      rcases hz with ⟨a, m', n', e⟩ | ⟨a, b, c, d, e⟩
      · exact .inl ⟨a, _, hn', by rw [if_neg hy, ns_one hn n']; exact e⟩
      · exact .inr ⟨a, b, c, d, e.sameBut hs' fun q => ns_ne_cell (q ▸ hn) e⟩
    · intro y c _ _ ⟨ov, e⟩
      exact ⟨ov, e.sameBut hs' fun q => ns_ne_cell (q ▸ hn) e⟩
  · have hk := kindOf_store VE hx (by decide)
    obtain ⟨c, e1, e2, ⟨ov, e3⟩, e4⟩ := F.cell x hx
    refine wpAny_storeName_cell VE.kind hk e1 e3 fun h' hc' hs' => ?_
    have hne : env.locals ≠ c := fun q => ns_ne_cell (q ▸ hn) e3
    refine fin c _ e2 ⟨_, _, rfl⟩ hs' ?_ ⟨_, hn.sameBut hs' hne⟩ (.inr ⟨.inl hk, hcd, c, e1, hc'⟩) ?_ ?_
    · obtain ⟨o, e, _⟩ := hc'
      exact ⟨o, e⟩
    · intro y z hy hz
      rcases hz with ⟨a, m', n', e⟩ | ⟨a, b, c', d, e⟩
      · exact .inl ⟨a, m', n'.sameBut hs' hne, e⟩
      · exact .inr ⟨a, b, c', d, e.sameBut hs' fun q => hy (e4 y (q ▸ d))⟩
    · intro y c' hy d ⟨ov', e⟩
      by_cases q : c' = c
      · subst q; exact ⟨_, hc'⟩
      · exact ⟨ov', e.sameBut hs' q⟩
theorem store_ok {Q : Unit → Shared → Prop} (O : StoOk hb φ σ s.heap) (VE : EnvOk env sc φ ρ s.heap) (hκ : ∀ a ∈ κ, a ∈ φ.pr) (F : FrOk env sc κ s.heap) {x : Str} (hx : canStore sc x = true) {u : Value} {v : V} (r : RepV φ s.heap u v)
    (h : ∀ s', Pk κ s s' → StoOk hb φ σ s'.heap → EnvOk env sc φ (rset ρ x v) s'.heap → FrOk env sc κ s'.heap → Q () s') : wpAny (model prog w) A (storeName env x u) Q E s :=
  store_okH O VE hκ F hx r fun s' a b c d _ => h s' a b c d
theorem bind_ok {Q : Unit → Shared → Prop} (O : StoOk hb φ σ s.heap) (VE : EnvOk env sc φ ρ s.heap) (hκ : ∀ a ∈ κ, a ∈ φ.pr) (F : FrOk env sc κ s.heap) {x : Str} (hx : canStore sc x = true) {u : Value} {v : V} (r : RepV φ s.heap u v)
    (h : ∀ s', Pk κ s s' → StoOk hb φ σ s'.heap → EnvOk env sc φ (rset ρ x v) s'.heap → FrOk env sc κ s'.heap → Q () s') : wpAny (model prog w) A (bindName env x u) Q E s := by
  unfold bindName
  exact wpAny_bind (wpAny_holding (wpAny_point (wpAny_bind (store_ok O VE hκ F hx r fun s' a b c d => wpAny_point (h s' a b c d)))))
theorem isName {e : Expr} {x : Str} (h : nm? e = some x) : ∃ p, e = .Name x p := by
  cases e with
  | Name y p => exact ⟨p, congrArg (Expr.Name · p) (Option.some.inj h)⟩
  | _ => exact nn h
theorem bindN_k {P : Prop} {e : Expr} {es : List Expr} {ds : List D} {ρ ρ' : Rho} (h : bindN (e :: es) ds ρ = some ρ') (k : ∀ x p d ds', e = .Name x p → ds = d :: ds' → bindN es ds' (rset ρ x (.p d)) = some ρ' → P) : P := by
  cases ds with
  | nil => exact nn h
  | cons d ds' => exact bk h fun x e1 e2 => (isName e1).elim fun p e1 => k x p d ds' e1 rfl e2
theorem names_ok {Q : Unit → Shared → Prop} (hκ : ∀ a ∈ κ, a ∈ φ.pr) {es : List Expr} : ∀ {us : List Value} {ds : List D} {ρ ρ' : Rho} {s : Shared}, StoOk hb φ σ s.heap → EnvOk env sc φ ρ s.heap → FrOk env sc κ s.heap → bindN es ds ρ = some ρ' → RepA φ.all s.heap us ds →
    (∀ x p, Expr.Name x p ∈ es → canStore sc x = true) →
    (∀ s', Pk κ s s' → StoOk hb φ σ s'.heap → EnvOk env sc φ ρ' s'.heap → FrOk env sc κ s'.heap → Q () s') → wpAny (model prog w) A (assignInOrder ((assignEach es env).map (·.2)) us) Q E s := by
  induction es with
  | nil =>
    intro us ds ρ ρ' s O VE F e r hc h
    cases r with
    | nil => exact wpAny_pure (h s (Pk.refl κ s) O (Option.some.inj e ▸ VE) F)
    | cons _ _ => exact nn e
  | cons e0 es ih =>
    intro us ds ρ ρ' s O VE F e r hc h
    refine bindN_k e fun x p d ds' ee ed e => ?_
    subst ee ed
    cases r with
    | cons ru r =>
      rename_i u us
      show wpAny _ _ (holding us (assign (.Name x p) env u) >>= fun _ => assignInOrder ((assignEach es env).map (·.2)) us) _ _ _
      refine wpAny_bind (wpAny_holding ?_)
      rw [arm_assign_Name]
      refine wpAny_bind (wpAny_standAt (bind_ok O VE hκ F (hc x p List.mem_cons_self) (.p ru) fun s' pk O' V' F' => ?_))
      exact ih O' V' F' e (r.keep (pk.all hκ)) (fun y q m => hc y q (List.mem_cons_of_mem _ m)) fun s'' pk' O'' V'' F'' => h s'' (pk.trans pk') O'' V'' F''
end
section
variable {prog : Program} {w : World} {A : Around} {E : Value → Shared → Prop} {s : Shared}
theorem draw_list {it t : Addr} {items : Array Value} (hne : t ≠ it) : ∀ (n i : Nat) (s : Shared) (Q : List Value → Shared → Prop), s.heap.IsListIter it t i → s.heap.IsList t items → i + n ≤ items.size →
    (∀ h', h'.IsListIter it t (i + n) → Heap.SameBut it s.heap h' → Q ((items.toList.drop i).take n) { s with heap := h' }) → wpAny (model prog w) A (draw (.ref it) n) Q E s
  | 0, i, s, Q, hit, _, _, hQ => by
    show wpAny _ _ (pure []) Q E s
    exact wpAny_pure (by simpa using hQ s.heap hit (Heap.SameBut.refl ..))
  | n + 1, i, s, Q, hit, ht, hle, hQ => by
    have hlt : i < items.size := by omega
    show wpAny _ _ (pyNext (.ref it) >>= _) Q E s
    refine wpAny_bind (wpAny_pyNext_list_item hit ht (x := items[i]) (by simp [hlt]) fun h₁ hit₁ hs₁ => ?_)
    refine wpAny_bind (wpAny_holding (draw_list hne n (i + 1) _ _ hit₁ (ht.extBut hs₁.extBut hne) (by omega) fun h₂ hit₂ hs₂ => wpAny_pure ?_))
    have hd : items.toList.drop i = items[i] :: items.toList.drop (i + 1) := by simp [List.drop_eq_getElem_cons, hlt]
    have := hQ h₂ (by rw [show i + (n + 1) = i + 1 + n by omega]; exact hit₂) (hs₁.trans hs₂)
    rw [hd, List.take_succ_cons] at this
    exact this
theorem unpackItems_list {t : Addr} {items : Array Value} {Q : List Value → Shared → Prop} (hh : A.handled = none) (ht : s.heap.IsList t items)
    (hQ : ∀ h', Heap.ExtBut s.heap.objs.size s.heap h' → Q items.toList { s with heap := h' }) : wpAny (model prog w) A (unpackItems (.ref t) items.size none) Q E s := by
  have hlt : t ≠ s.heap.objs.size := by obtain ⟨o, ho, _⟩ := ht; exact Nat.ne_of_lt (Heap.lt_size ho)
  unfold unpackItems
  refine wpAny_bind ?_
  · unfold notIterableAtAll
    refine wpAny_bind (wpAny_specialOf ht.typeIs PySem.F.slot_list_iter.lookup ?_)
    refine wpAny_pure ?_
    simp only [Bool.false_eq_true, if_false]
    refine wpAny_bind (wpAny_holding (wpAny_pyIter_list ht ?_))
    refine wpAny_bind (wpAny_holding (draw_list hlt items.size 0 _ _ ⟨_, Heap.get?_push_size _ rfl, rfl, rfl⟩ (ht.push _) (by omega) fun h₁ hit₁ hs₁ => ?_))
    have hall : List.take items.size (List.drop 0 items.toList) = items.toList := by
      rw [List.drop_zero]; exact List.take_of_length_le (by simp)
    rw [hall]
    rw [if_neg (by simp)]
    have ht₁ : h₁.IsList t items := (ht.push _).extBut hs₁.extBut hlt
    refine wpAny_bind (wpAny_holding (wpAny_pyNext_list_end hh hit₁ ht₁ (by simp) fun h₂ he₂ => ?_))
    simp only [Option.isSome_none, Bool.false_eq_true, if_false]
    refine wpAny_pure (hQ h₂ fun b o hb e => he₂ b o hb (hs₁.extBut b o hb (Heap.get?_push_of_some _ e)))
end
theorem bindN_len {es : List Expr} : ∀ {ds : List D} {ρ ρ' : Rho}, bindN es ds ρ = some ρ' → es.length = ds.length := by
  induction es with
  | nil => intro ds ρ ρ' e; cases ds with
    | nil => rfl
    | cons _ _ => exact nn e
  | cons e0 es ih =>
    intro ds ρ ρ' e
    exact bindN_k e fun x p d ds' _ ed e => ed ▸ congrArg (· + 1) (ih e)
theorem assignEach_len (env : Env) {es : List Expr} : ∀ {ds : List D} {ρ ρ' : Rho}, bindN es ds ρ = some ρ' → (assignEach es env).length = es.length ∧ (assignEach es env).findIdx? (·.1) = none := by
  induction es with
  | nil => intro ds ρ ρ' e; exact ⟨rfl, rfl⟩
  | cons e0 es ih =>
    intro ds ρ ρ' e
    refine bindN_k e fun x p d ds' ee _ e => ?_
    obtain ⟨a, b⟩ := ih e
    subst ee
    have e1 : assignEach (.Name x p :: es) env = (false, assign (.Name x p) env) :: assignEach es env := rfl
    rw [e1]
    exact ⟨congrArg (· + 1) a, by rw [List.findIdx?_cons, b]; rfl⟩
section
variable {prog : Program} {w : World} {hb : Heap} {σ : Sto} {A : Around} {φ : Ap} {κ : List Addr} {s : Shared} {env : Env} {sc : Sc} {ρ : Rho} {E : Value → Shared → Prop}
theorem extBut_kp {s : Shared} {h' : Heap} (e : Heap.ExtBut s.heap.objs.size s.heap h') : Kp s { s with heap := h' } := ⟨h', s.toks, rfl, fun b o x => e b o (Nat.ne_of_lt (Heap.lt_size x)) x⟩
theorem mem_targets {es : List Expr} {k : Nat} {q : Pos} {x : Str} {p : Pos} (m : Expr.Name x p ∈ es) : x ∈ targetNames (.Tuple es k q) := by
  exact List.mem_filterMap.mpr ⟨_, m, rfl⟩
theorem target_ok {Q : Unit → Shared → Prop} (hA : A.handled = none) (O : StoOk hb φ σ s.heap) (VE : EnvOk env sc φ ρ s.heap) (hκ : ∀ a ∈ κ, a ∈ φ.pr) (F : FrOk env sc κ s.heap) {t : Expr} {v : V} {u : Value} {ρ' : Rho} (e : bindT t v ρ = some ρ') (hx : (targetNames t).all (canStore sc) = true) (r : RepV φ s.heap u v)
    (h : ∀ s', Pk κ s s' → StoOk hb φ σ s'.heap → EnvOk env sc φ ρ' s'.heap → FrOk env sc κ s'.heap → Q () s') : wpAny (model prog w) A (assign t env u) Q E s := by
  cases t with
  | Name x p =>
    rw [arm_assign_Name]
    exact wpAny_bind (wpAny_standAt (bind_ok O VE hκ F (an hx).1 r fun s' a b c d => h s' a b (Option.some.inj e ▸ c) d))
  | Tuple es k q =>
    have hc : ∀ x p, Expr.Name x p ∈ es → canStore sc x = true := fun x p m => List.all_eq_true.mp hx x (mem_targets (k := k) (q := q) m)
    rw [arm_assign_Tuple]
    refine wpAny_bind (wpAny_standAt ?_)
    refine bk e fun l el e => ?_
    obtain ⟨l1, l2⟩ := assignEach_len env e
    have hl := l1.trans (bindN_len e)
    have fin : ∀ {vs : List Value} {h' : Heap}, RepA φ.all s.heap vs l → Heap.ExtBut s.heap.objs.size s.heap h' → wpAny (model prog w) A (assignInOrder ((assignEach es env).map (·.2)) vs) Q E { s with heap := h' } := fun ra he =>
      have k := extBut_kp he
      names_ok hκ (O.kp k) (VE.kp k) (F.kp k) e (ra.keep (k.kb _)) hc fun s' pk O' V' F' => h s' ((Kp.pk k).trans pk) O' V' F'
    refine ok el (fun el => ?_) fun el => ?_
    · obtain ⟨a, vs, rfl, _, ht, ra⟩ := rTup r el
      exact wpAny_unpack_tuple hA ht (hl.trans ra.size.symm) l2 fun h' he => fin ra he
    · obtain ⟨a, vs, rfl, _, ht, ra⟩ := rLst r el
      unfold unpack
      rw [l2, hl.trans ra.size.symm]
      exact wpAny_bind (wpAny_holding (unpackItems_list hA ht fun h' he => fin ra he))
  | _ => exact nn e
end
-- S10
noncomputable def ownKinds : List String := ["enumerate", "zip", "dict_itemiterator", "dict_reverseitemiterator", "odict_iterator", "itertools.zip_longest", "itertools.pairwise"]
section
variable {prog : Program} {w : World} {A : Around} {E : Value → Shared → Prop} {s : Shared}
theorem wp_ifF {α : Type} {Q : α → Shared → Prop} {c : Bool} {t t' : Sem α} (hc : c = false) (h : wpAny (model prog w) A t' Q E s) : wpAny (model prog w) A (if c = true then t else t') Q E s := by subst hc; exact h
theorem wp_ifT {α : Type} {Q : α → Shared → Prop} {c : Bool} {t t' : Sem α} (hc : c = true) (h : wpAny (model prog w) A t Q E s) : wpAny (model prog w) A (if c = true then t else t') Q E s := by subst hc; exact h
theorem letOwned_my {target : Expr} {it v : Value} {Q : Unit → Shared → Prop} (h : (∀ a, v ≠ .ref a) ∨ ∃ r o n, it = .ref r ∧ s.heap.get? r = some o ∧ o.cls = .type n ∧ ownKinds.contains n = false) (hQ : Q () s) :
    wpAny (model prog w) A (letOwnedTupleGo target it v) Q E s := by
  have body : wpAny (model prog w) A (do
      let (.ref r, .ref a) := (it, v) | return
      let o ← load r
      match o.cls, o.data with
      | .type n, .fields vs =>
        if ["enumerate", "zip", "dict_itemiterator", "dict_reverseitemiterator", "odict_iterator", "itertools.zip_longest", "itertools.pairwise"].contains n && vs[0]? == some (rawInt a) then
          rule "for.unpacks-the-owned-tuple"
          updateField r 0 .none
      | _, _ => pure ()) Q E s := by
    cases it with
    | ref r =>
      cases v with
      | ref a =>
        rcases h with h | ⟨r, o, n, hr, ho, hc, hn⟩
        · exact absurd rfl (h a)
        · obtain rfl := Value.ref.inj hr
          refine wpAny_bind (wpAny_load ho ?_)
          rw [hc]
          generalize o.data = dd
          cases dd with
          | fields vs =>
            exact wp_ifF (by rw [show (["enumerate", "zip", "dict_itemiterator", "dict_reverseitemiterator", "odict_iterator", "itertools.zip_longest", "itertools.pairwise"].contains n) = false from hn]; rfl) (wpAny_pure hQ)
          | _ => exact wpAny_pure hQ
      | _ => exact wpAny_pure hQ
    | _ => exact wpAny_pure hQ
  cases target with
  | Tuple _ _ _ => exact body
  | List _ _ => exact body
  | _ => exact wpAny_pure hQ
end
structure Walk1 (prog : Program) (w : World) (A : Around) (φ : Ap) (s : Shared) (u : Value) (x : V) (l : List D) : Prop where
  run : ∀ (Q : Value → Shared → Prop) (E : Value → Shared → Prop),
    (∀ I s₂ fp n P St, n = l.length → Kp s s₂ → s.heap.get? I = none → Walks prog w A I fp [I] n P St → St 0 s₂.heap →
      (∀ b ∈ fp, b = I ∨ ((b ∉ φ.all ∨ ∃ i, x = .own i ∧ φ.ix[i]? = some b) ∧ ∃ o, s.heap.get? b = some o)) →
      (∀ i v, i < n → P i v → ∀ ψ h', (∀ x ∈ ψ, x ∈ φ.all ∨ s.heap.get? x = none) → Kb ψ s.heap h' → ∃ d, l[i]? = some d ∧ RepD ψ h' v d) →
      (∀ i h, St i h → ∃ o, h.get? I = some o) →
      (∀ i v h, P i v → St (i + 1) h → (∀ a, v ≠ .ref a) ∨ ∃ o n, h.get? I = some o ∧ o.cls = .type n ∧ ownKinds.contains n = false) → Q (.ref I) s₂) →
    wpAny (model prog w) A (pyIter u) Q E s
section
variable {prog : Program} {w : World} {hb : Heap} {σ : Sto} {A : Around} {φ : Ap} {s : Shared}
theorem get_size (h : Heap) : h.get? h.objs.size = none := by
  cases e : h.get? h.objs.size with
  | none => rfl
  | some o => exact absurd (Heap.lt_size e) (Nat.lt_irrefl _)
theorem walk_list (hA : A.handled = none) {a : Addr} {vs : List Value} {l : List D} (hx : s.heap.IsList a vs.toArray) (ra : RepA φ.all s.heap vs l) {x : V} (hn : a ∉ φ.all ∨ ∃ i, x = .own i ∧ φ.ix[i]? = some a) : Walk1 prog w A φ s (.ref a) x l where
  run := fun Q E h => by
    obtain ⟨oa, hoa, hca, hda⟩ := id hx
    have hne : a ≠ s.heap.objs.size := Nat.ne_of_lt (Heap.lt_size hoa)
    have hlen : vs.toArray.size = l.length := by rw [List.size_toArray, ra.length]
    refine wpAny_pyIter_list hx (h _ _ _ _ _ _ hlen (Kp.push' _ _) (get_size _) (Walks.list (prog := prog) (w := w) hA s.heap.objs.size a hne vs.toArray) ⟨⟨_, Heap.get?_push_size _ rfl, rfl, rfl⟩, hx.push _⟩ ?_ ?_ ?_ ?_)
    · intro b hb
      simp only [List.mem_cons, List.not_mem_nil, or_false] at hb
      rcases hb with rfl | rfl
      · exact .inl rfl
      · exact .inr ⟨hn, oa, hoa⟩
    · intro i v _ hP ψ h' hψ kb
      obtain ⟨d, e1, e2⟩ := ra.getV (k := i) (v := v) (by simpa using hP)
      exact ⟨d, e1, (e2.more hψ).keep kb⟩
    · rintro i h ⟨⟨o, e, _⟩, _⟩
      exact ⟨o, e⟩
    · rintro i v h _ ⟨⟨o, e, c, _⟩, _⟩
      exact .inr ⟨o, _, e, c, by decide⟩
theorem walk_tuple (hA : A.handled = none) {a : Addr} {vs : List Value} {l : List D} (hx : IsTup s.heap a vs.toArray) (ra : RepA φ.all s.heap vs l) {x : V} (hn : a ∉ φ.all ∨ ∃ i, x = .own i ∧ φ.ix[i]? = some a) : Walk1 prog w A φ s (.ref a) x l where
  run := fun Q E h => by
    obtain ⟨oa, hoa, hca, hda⟩ := id hx
    have hne : a ≠ s.heap.objs.size := Nat.ne_of_lt (Heap.lt_size hoa)
    have hlen : vs.toArray.size = l.length := by rw [List.size_toArray, ra.length]
    refine wpAny_pyIter_tuple hx (h _ _ _ _ _ _ hlen (Kp.push' _ _) (get_size _) (Walks.tuple (prog := prog) (w := w) hA s.heap.objs.size a hne vs.toArray) ⟨⟨_, Heap.get?_push_size _ rfl, rfl, rfl⟩, isTup_at hx fun o e => Heap.get?_push_of_some _ e⟩ ?_ ?_ ?_ ?_)
    · intro b hb
      simp only [List.mem_cons, List.not_mem_nil, or_false] at hb
      rcases hb with rfl | rfl
      · exact .inl rfl
      · exact .inr ⟨hn, oa, hoa⟩
    · intro i v _ hP ψ h' hψ kb
      obtain ⟨d, e1, e2⟩ := ra.getV (k := i) (v := v) (by simpa using hP)
      exact ⟨d, e1, (e2.more hψ).keep kb⟩
    · rintro i h ⟨⟨o, e, _⟩, _⟩
      exact ⟨o, e⟩
    · rintro i v h _ ⟨⟨o, e, c, _⟩, _⟩
      exact .inr ⟨o, _, e, c, by decide⟩
theorem walk_str (hA : A.handled = none) (l : List Nat) (t : Tok) {x : V} : Walk1 prog w A φ s (.str ⟨l.toArray⟩ t) x (l.map fun c => .str [c]) where
  run := fun Q E h => by
    have item : ∀ i v, i < (⟨l.toArray⟩ : Str).cps.size → SignAt ⟨l.toArray⟩ i v → ∀ ψ h', (∀ x ∈ ψ, x ∈ φ.all ∨ s.heap.get? x = none) → Kb ψ s.heap h' → ∃ d, (l.map fun c => D.str [c])[i]? = some d ∧ RepD ψ h' v d := by
      rintro i v _ ⟨c, u, e, rfl⟩ ψ h' _ _
      exact ⟨.str [c], by simpa using e, .str [c] u⟩
    have noref : ∀ i v, SignAt ⟨l.toArray⟩ i v → ∀ a, v ≠ .ref a := by
      rintro i v ⟨c, u, e, rfl⟩ a h; cases h
    have one : ∀ b ∈ [s.heap.objs.size], b = s.heap.objs.size ∨ ((b ∉ φ.all ∨ ∃ i, x = .own i ∧ φ.ix[i]? = some b) ∧ ∃ o, s.heap.get? b = some o) := fun b hb => .inl (List.mem_singleton.mp hb)
    have hsz : (⟨l.toArray⟩ : Str).cps.size = (l.map fun c => D.str [c]).length := by simp
    cases ha : (⟨l.toArray⟩ : Str).cps.all (· < 128)
    · refine wpAny_pyIter_wide ha (h _ _ _ _ _ _ hsz (Kp.push' _ _) (get_size _) (Walks.strWide hA _ ⟨l.toArray⟩ t) ⟨_, Heap.get?_push_size _ rfl, rfl, rfl⟩ one item ?_ fun i v _ hP _ => .inl (noref i v hP))
      rintro i h ⟨o, e, _⟩; exact ⟨o, e⟩
    · refine wpAny_pyIter_ascii ha (h _ _ _ _ _ _ hsz (Kp.push' _ _) (get_size _) (Walks.strAscii hA _ ⟨l.toArray⟩ t) ⟨_, Heap.get?_push_size _ rfl, rfl, rfl⟩ one item ?_ fun i v _ hP _ => .inl (noref i v hP))
      rintro i h ⟨o, e, _⟩; exact ⟨o, e⟩
theorem walk_bytes (hA : A.handled = none) (b : Array UInt8) (t : Tok) {x : V} : Walk1 prog w A φ s (.bytes b t) x ((b.toList.map (·.toNat)).map fun c => .int (Int.ofNat c)) where
  run := fun Q E h => by
    have one : ∀ b ∈ [s.heap.objs.size], b = s.heap.objs.size ∨ ((b ∉ φ.all ∨ ∃ i, x = .own i ∧ φ.ix[i]? = some b) ∧ ∃ o, s.heap.get? b = some o) := fun b hb => .inl (List.mem_singleton.mp hb)
    have hsz : b.size = ((b.toList.map (·.toNat)).map fun c => D.int (Int.ofNat c)).length := by simp
    refine KBw.pyIter_bytes (h _ _ _ _ _ _ hsz (Kp.push' _ _) (get_size _) (KBw.walks hA _ b t) ⟨_, Heap.get?_push_size _ rfl, rfl, rfl⟩ one ?_ ?_ ?_)
    · rintro i v _ ⟨c, u, e, rfl⟩ ψ h' _ _
      exact ⟨.int (Int.ofNat c.toNat), by
        have : b.toList[i]? = some c := by simpa using e
        simp [this], .int _ u⟩
    · rintro i h ⟨o, e, _⟩; exact ⟨o, e⟩
    · rintro i v h ⟨c, u, e, rfl⟩ _; exact .inl fun a h => by cases h
theorem walk_range (hA : A.handled = none) {z : V} {a : Addr} {x c y : Int} {n : Nat} {t u v : Tok} (hr : IsRange s.heap a x y c t u v) (hs : Builtin.Range.small x y c = true) (hn : Builtin.Range.rangeSize x y c = n) :
    Walk1 prog w A φ s (.ref a) z ((List.range n).map fun k => .int (x + Int.ofNat k * c)) where
  run := fun Q E h => by
    have one : ∀ b ∈ [s.heap.objs.size], b = s.heap.objs.size ∨ ((b ∉ φ.all ∨ ∃ i, z = .own i ∧ φ.ix[i]? = some b) ∧ ∃ o, s.heap.get? b = some o) := fun b hb => .inl (List.mem_singleton.mp hb)
    have hsz : n = ((List.range n).map fun k => D.int (x + Int.ofNat k * c)).length := by simp
    have W := Walks.range (prog := prog) (w := w) hA s.heap.objs.size x c n
    refine wpAny_pyIter_range hr hs (h _ _ _ _ _ _ hsz (Kp.push' _ _) (get_size _) W ?_ one ?_ ?_ ?_)
    · rw [hn]
      show (s.heap.push _).get? _ = _
      rw [Heap.get?_push_size _ rfl]
      simp
    · rintro i v' hi ⟨t', rfl⟩ ψ h' _ _
      exact ⟨.int (x + (i : Int) * c), by simp [hi], .int _ t'⟩
    · rintro i h e; exact ⟨_, e⟩
    · rintro i v h ⟨c, rfl⟩ _; exact .inl fun a h => by cases h
end
section
variable {prog : Program} {w : World} {hb : Heap} {σ : Sto} {A : Around} {φ : Ap} {s : Shared}
theorem walk_items (hA : A.handled = none) (O : StoOk hb φ σ s.heap) {x : V} {u : Value} {l : List D} (r : RepV φ s.heap u x) (e : items? σ x = some l) : Walk1 prog w A φ s u x l := by
  cases x with
  | p d =>
    have r := repV_p r
    cases d with
    | list l =>
      obtain ⟨a, vs, rfl, hn, hx, ra⟩ := repD_list r
      exact walk_list hA hx (Option.some.inj e ▸ ra) (.inl hn)
    | tuple l =>
      obtain ⟨a, vs, rfl, hn, hx, ra⟩ := repD_tuple r
      exact walk_tuple hA hx (Option.some.inj e ▸ ra) (.inl hn)
    | str l =>
      obtain ⟨t, rfl⟩ := repD_str r
      exact Option.some.inj e ▸ walk_str hA l t
    | bytes l =>
      obtain ⟨b, t, rfl, rfl⟩ := repD_bytes r
      exact Option.some.inj e ▸ walk_bytes hA b t
    | none => exact nn e
    | bool _ => exact nn e
    | int _ => exact nn e
  | own i =>
    cases repV_own r with
    | mk a q =>
      obtain ⟨a', vs, e1, e2, e3⟩ := O.sto i l e
      obtain rfl := Option.some.inj (q.symm.trans e1)
      exact walk_list hA e2.isList e3 (.inr ⟨_, rfl, q⟩)
  | rng a c n =>
    cases r.inv with
    | mk a y t u v hn hr hs hz => exact Option.some.inj e ▸ walk_range hA hr hs hz
  | hdr _ => exact nn e
  | pat _ => exact nn e
  | mat _ => exact nn e
  | typ _ => exact nn e
  | any => exact nn e
end
-- S11
theorem cf_mem : ∀ (names : List (Str × NameKind)) (n : Nat) (acc : List (Str × Addr)) (y : Str) (c : Addr), (y, c) ∈ cellsFrom n names acc → (y, c) ∈ acc ∨ (n ≤ c ∧ (y, NameKind.cell) ∈ names)
  | [], _, _, _, _, h => .inl h
  | (x, k) :: r, n, acc, y, c, h => by
    unfold cellsFrom at h
    split at h
    · rename_i hk
      have hk := eq_of_beq hk
      subst hk
      rcases cf_mem r (n + 1) _ y c h with h | ⟨a, b⟩
      · rcases List.mem_cons.mp h with e | h
        · cases e; exact .inr ⟨Nat.le_refl _, List.mem_cons_self⟩
        · exact .inl h
      · exact .inr ⟨by omega, List.mem_cons_of_mem _ b⟩
    · rcases cf_mem r n _ y c h with h | ⟨a, b⟩
      · exact .inl h
      · exact .inr ⟨a, List.mem_cons_of_mem _ b⟩
theorem cf_apart : ∀ (names : List (Str × NameKind)) (n : Nat) (acc : List (Str × Addr)) (lo : Nat), (∀ y z c, (y, c) ∈ acc → (z, c) ∈ acc → lo ≤ c → y = z) → (∀ y c, (y, c) ∈ acc → c < n) → lo ≤ n →
    ∀ y z c, (y, c) ∈ cellsFrom n names acc → (z, c) ∈ cellsFrom n names acc → lo ≤ c → y = z
  | [], _, _, _, h, _, _ => h
  | (x, k) :: r, n, acc, lo, h, hlt, hlo => by
    unfold cellsFrom
    split
    · refine cf_apart r (n + 1) _ lo ?_ ?_ (by omega)
      · intro y z c hy hz hc
        rcases List.mem_cons.mp hy with e | hy <;> rcases List.mem_cons.mp hz with e' | hz
        · cases e; cases e'; rfl
        · cases e; exact absurd (hlt z _ hz) (Nat.lt_irrefl _)
        · cases e'; exact absurd (hlt y _ hy) (Nat.lt_irrefl _)
        · exact h y z c hy hz hc
      · intro y c hy
        rcases List.mem_cons.mp hy with e | hy
        · cases e; exact Nat.lt_succ_self _
        · exact Nat.lt_succ_of_lt (hlt y c hy)
    · exact cf_apart r n acc lo h hlt hlo
theorem cf_old : ∀ (names : List (Str × NameKind)) (m : Nat) (acc : List (Str × Addr)) (x : Str), (x, NameKind.cell) ∉ names → (cellsFrom m names acc).lookup x = acc.lookup x
  | [], _, _, _, _ => rfl
  | (z', k') :: q, m, acc, x, hn => by
    unfold cellsFrom
    split
    · rename_i hk
      have hk := eq_of_beq hk
      subst hk
      rw [cf_old q (m + 1) _ x fun hm => hn (List.mem_cons_of_mem _ hm), List.lookup_cons]
      have : (x == z') = false := beq_eq_false_iff_ne.mpr fun e => hn (e ▸ List.mem_cons_self)
      rw [this]
    · exact cf_old q m acc x fun hm => hn (List.mem_cons_of_mem _ hm)
theorem cf_new : ∀ (names : List (Str × NameKind)) (n : Nat) (acc : List (Str × Addr)) (x : Str), (x, NameKind.cell) ∈ names → ∃ c, n ≤ c ∧ (cellsFrom n names acc).lookup x = some c
  | [], _, _, _, h => by cases h
  | (z, k) :: r, n, acc, x, h => by
    by_cases hr : (x, NameKind.cell) ∈ r
    · unfold cellsFrom
      split
      · obtain ⟨c, a, b⟩ := cf_new r (n + 1) ((z, n) :: acc) x hr
        exact ⟨c, by omega, b⟩
      · exact cf_new r n acc x hr
    · have e : (x, NameKind.cell) = (z, k) := (List.mem_cons.mp h).resolve_right hr
      cases e
      unfold cellsFrom
      rw [if_pos (by rfl)]
      exact ⟨n, Nat.le_refl _, by rw [cf_old r (n + 1) _ _ hr, List.lookup_cons, beq_self_eq_true]⟩
theorem cf_cells : ∀ (names : List (Str × NameKind)) (h : Heap) (acc : List (Str × Addr)) (lo : Nat), (∀ y c, (y, c) ∈ acc → lo ≤ c → h.IsCell c none) → lo ≤ h.objs.size →
    ∀ y c, (y, c) ∈ cellsFrom h.objs.size names acc → lo ≤ c → (pushCells h names).IsCell c none
  | [], _, _, _, h, _ => h
  | (x, k) :: r, h, acc, lo, hc, hlo => by
    unfold cellsFrom pushCells
    split
    · have := cf_cells r (h.push { cls := .type "cell", data := .cell none }) ((x, h.objs.size) :: acc) lo (fun y c hy hl => by
        rcases List.mem_cons.mp hy with e | hy
        · cases e; exact ⟨_, Heap.get?_push_size _ rfl, rfl⟩
        · exact (hc y c hy hl).keeps fun b o e => Heap.get?_push_of_some _ e) (by rw [Heap.size_push]; omega)
      rwa [Heap.size_push] at this
    · exact cf_cells r h acc lo hc hlo
noncomputable def cEnv (scope : Scope) (cl : List (Str × Addr)) (C : Nat) (env : Env) : Env :=
  { scope := relabel scope env, locals := C, globals := env.globals, cells := cellsFrom (C + 1) scope.names cl, qual := env.qual, func := none, code := env.code, frame := env.frame, builtins := env.builtins }
section
variable {M : Model} {A : Around} {E : Value → Shared → Prop} {s : Shared}
theorem newEnv_my {scope : Scope} {globals : Addr} {cl : List (Str × Addr)} {qual : Str} {code : Value} {builtins : Addr} {outer : Env} {Q : Env → Shared → Prop}
    (hQ : Q { scope := scope, locals := s.heap.objs.size, globals := globals, cells := cellsFrom (s.heap.objs.size + 1) scope.names cl, qual := qual, func := none, code := outer.code, frame := outer.frame, builtins := outer.builtins }
      { s with heap := pushCells (s.heap.push { cls := .type "dict", data := .dict #[] }) scope.names }) :
    wpAny M A (newFunctionEnv scope globals cl [] qual none code (some outer) builtins) Q E s := by
  simp only [newFunctionEnv, Option.isSome_some, if_true]
  refine wpAny_bind (wpAny_alloc ?_)
  refine wpAny_bind (wpAny_layCells _ (fun name kind cells => by cases hkc : kind == NameKind.cell <;> simp [hkc]) _ _ _ _ ?_)
  rw [show ({ s with heap := s.heap.push { cls := .type "dict", data := .dict #[] } } : Shared).heap.objs.size = s.heap.objs.size + 1 from Heap.size_push ..]
  exact wpAny_bind (wpAny_pure (wpAny_pure hQ))
end
noncomputable def closGo (env : Env) : List (Str × NameKind) → List (Str × Addr) → List (Str × Addr)
  | [], acc => acc
  | (x, k) :: r, acc => if k == .free then (match env.cells.lookup x with | some c => closGo env r ((x, c) :: acc) | none => closGo env r acc) else closGo env r acc
theorem closureFor_my {scope : Scope} {env : Env} (h : ∀ p ∈ scope.names, p.2 = .free → ∃ c, env.cells.lookup p.1 = some c) : closureFor scope env = pure (closGo env scope.names []) := by
  unfold closureFor
  have go : ∀ (names : List (Str × NameKind)) (acc : List (Str × Addr)), (∀ p ∈ names, p.2 = .free → ∃ c, env.cells.lookup p.1 = some c) →
      (forIn names acc fun (x : Str × NameKind) (cs : List (Str × Addr)) => (if x.2 == .free then (do let c ← cellOf env x.1; pure (ForInStep.yield ((x.1, c) :: cs))) else pure (ForInStep.yield cs) : Sem (ForInStep (List (Str × Addr))))) = pure (closGo env names acc) := by
    intro names
    induction names with
    | nil => intro acc _; rfl
    | cons p r ih =>
      obtain ⟨x, k⟩ := p
      intro acc h
      rw [List.forIn_cons]
      unfold closGo
      by_cases hk : (k == NameKind.free) = true
      · obtain ⟨c, e⟩ := h (x, k) List.mem_cons_self (eq_of_beq hk)
        have e' : env.cells.lookup x = some c := e
        simp only [hk, if_true, e']
        have ec : cellOf env x = pure c := by unfold cellOf; rw [e']
        rw [ec]
        exact ih _ fun p hp => h p (List.mem_cons_of_mem _ hp)
      · simp only [Bool.not_eq_true] at hk
        simp only [hk, Bool.false_eq_true, if_false]
        exact ih _ fun p hp => h p (List.mem_cons_of_mem _ hp)
  have := go scope.names [] h
  simpa using this
theorem closGo_mem {env : Env} : ∀ (names : List (Str × NameKind)) (acc : List (Str × Addr)) (x : Str) (c : Addr), (x, c) ∈ closGo env names acc → (x, c) ∈ acc ∨ ((x, NameKind.free) ∈ names ∧ env.cells.lookup x = some c)
  | [], _, _, _, h => .inl h
  | (y, k) :: r, acc, x, c, h => by
    unfold closGo at h
    split at h
    · rename_i hk
      have hk := eq_of_beq hk
      subst hk
      split at h
      · rename_i c' e
        rcases closGo_mem r _ x c h with h | h
        · rcases List.mem_cons.mp h with e' | h
          · cases e'; exact .inr ⟨List.mem_cons_self, e⟩
          · exact .inl h
        · exact .inr ⟨List.mem_cons_of_mem _ h.1, h.2⟩
      · exact (closGo_mem r _ x c h).imp id fun h => ⟨List.mem_cons_of_mem _ h.1, h.2⟩
    · exact (closGo_mem r _ x c h).imp id fun h => ⟨List.mem_cons_of_mem _ h.1, h.2⟩
theorem closGo_lookup {env : Env} {x : Str} {c : Addr} (e : env.cells.lookup x = some c) : ∀ (names : List (Str × NameKind)) (acc : List (Str × Addr)), ((x, NameKind.free) ∈ names ∨ acc.lookup x = some c) → (∀ c', (x, c') ∈ acc → c' = c) → (closGo env names acc).lookup x = some c
  | [], acc, h, _ => by rcases h with h | h; cases h; exact h
  | (y, k) :: r, acc, h, ha => by
    unfold closGo
    by_cases hk : (k == NameKind.free) = true
    · rw [if_pos hk]
      have hk' := eq_of_beq hk
      subst hk'
      by_cases hy : x = y
      · subst hy
        simp only [e]
        refine closGo_lookup e r _ (.inr (by rw [List.lookup_cons, beq_self_eq_true])) fun c' hc' => ?_
        rcases List.mem_cons.mp hc' with q | q
        · cases q; rfl
        · exact ha c' q
      · have hb : (x == y) = false := beq_eq_false_iff_ne.mpr hy
        have h' : (x, NameKind.free) ∈ r ∨ acc.lookup x = some c := h.imp (fun m => (List.mem_cons.mp m).resolve_left fun q => hy (by cases q; rfl)) id
        split
        · refine closGo_lookup e r _ (h'.imp id fun q => by rw [List.lookup_cons, hb]; exact q) fun c' hc' => ?_
          rcases List.mem_cons.mp hc' with q | q
          · cases q; exact absurd rfl hy
          · exact ha c' q
        · exact closGo_lookup e r _ h' ha
    · rw [if_neg hk]
      refine closGo_lookup e r _ (h.imp (fun m => (List.mem_cons.mp m).resolve_left fun q => hk (by cases q; rfl)) id) ha
-- S12
section
variable {prog : Program} {w : World} {A : Around} {R : Result → Shared → Prop} {s : Shared}
theorem compLoop_my {elt target iter : Expr} {ifs : List Expr} {scope : Scope} {pos : Pos} {it acc : Value} {env : Env} (I : Nat → Shared → Prop)
    (turn : ∀ n s (E' : Value → Shared → Prop), I n s → wpAny (model prog w) A (pyNext it) (fun r s₁ => match r with
      | none => R (.ok .next) s₁
      | some v => wpAny (model prog w) A (letOwnedTupleGo target it v) (fun _ s₁' => wpAny (model prog w) A (assign target env v) (fun _ s₂ =>
          wpAny (model prog w) A (forIn ifs true fun c r => if r = true then do let ok ← isTrue c env (eval c env); pure (ForInStep.yield ok) else pure (ForInStep.yield r)) (fun ok s₃ =>
            if ok = true then wpAny (model prog w) A (eval elt env) (fun x s₄ =>
              wpAny (model prog w) A (call (.builtin "list.append") [acc, x]) (fun _ s₅ => ∃ m, m < n ∧ I m s₅) E' s₄) E' s₃
            else ∃ m, m < n ∧ I m s₃) E' s₂) E' s₁') E' s₁) E' s)
    (n : Nat) (h : I n s) :
    codeAny (model prog w) A (.compLoop (.ListComp elt [⟨target, iter, ifs, 0⟩] scope pos) 0 it acc env) R s := by
  refine codeAny_loop rfl I (fun n s hI => ?_) n h
  show wpAny _ A ((compTurn (.ListComp elt [⟨target, iter, ifs, 0⟩] scope pos) 0 it acc env).onRaise (fun x => do noteFrame x env; theTreesLotGoes x)) _ _ s
  refine wpAny_noted ?_
  rw [compTurn_list]
  refine wpAny_bind (wpAny_standAt (wpAny_bind (wpAny_mono (turn n s _ hI) (fun r s₁ h₁ => ?_) fun _ _ h' => h')))
  cases r with
  | none => exact wpAny_pure h₁
  | some v =>
    refine wpAny_bind (wpAny_mono h₁ (fun _ s₁' h₁' => ?_) fun _ _ h' => h')
    refine wpAny_bind (wpAny_mono h₁' (fun _ s₂ h₂ => wpAny_bind (wpAny_mono h₂ (fun ok s₃ h₃ => ?_) fun _ _ h' => h')) fun _ _ h' => h')
    cases ok with
    | false => exact wpAny_pure ⟨rfl, h₃⟩
    | true =>
      exact wpAny_bind (wpAny_bind (wpAny_mono h₃ (fun x s₄ h₄ => wpAny_bind (wpAny_mono h₄ (fun _ s₅ h₅ => wpAny_pure (wpAny_pure ⟨rfl, h₅⟩)) fun _ _ h' => h')) fun _ _ h' => h'))
end
theorem lookup_filter (f : Str → Bool) (x : Str) : ∀ ρ : Rho, (ρ.filter fun p => f p.1).lookup x = if f x then ρ.lookup x else none
  | [] => by simp
  | (y, v) :: r => by
    have ih := lookup_filter f x r
    by_cases hy : f y = true
    · rw [List.filter_cons_of_pos (by simpa using hy), List.lookup_cons, List.lookup_cons, ih]
      cases hb : x == y with
      | true => have := eq_of_beq hb; subst this; simp [hy]
      | false => rfl
    · rw [List.filter_cons_of_neg (by simpa using hy), ih, List.lookup_cons]
      cases hb : x == y with
      | true =>
        have := eq_of_beq hb; subst this
        simp [hy]
      | false => rfl
theorem lookup_relabel {env : Env} : ∀ {names : List (Str × NameKind)} {x : Str} {k : NameKind}, names.lookup x = some k →
    (names.map fun (n, k) => if (k == NameKind.free && env.scope.kind == .function && env.kindOf n == some .cell) then (n, NameKind.cell) else (n, k)).lookup x = some k ∨
    (k = .free ∧ (names.map fun (n, k) => if (k == NameKind.free && env.scope.kind == .function && env.kindOf n == some .cell) then (n, NameKind.cell) else (n, k)).lookup x = some .cell)
  | [], _, _, h => by simp at h
  | (n, k') :: r, x, k, h => by
    have ih := @lookup_relabel env r x k
    simp only [List.map_cons]
    cases hx : x == n with
    | true =>
      simp only [List.lookup_cons, hx] at h
      have h : k' = k := by injection h
      subst h
      by_cases hc : (k' == NameKind.free && env.scope.kind == .function && env.kindOf n == some .cell) = true
      · simp only [hc, if_true, List.lookup_cons, hx]
        simp only [Bool.and_eq_true] at hc
        exact .inr ⟨eq_of_beq hc.1.1, trivial⟩
      · simp only [hc, Bool.false_eq_true, if_false, List.lookup_cons, hx]
        exact .inl trivial
    | false =>
      simp only [List.lookup_cons, hx] at h
      have ih := ih h
      by_cases hc : (k' == NameKind.free && env.scope.kind == .function && env.kindOf n == some .cell) = true
      · simp only [hc, if_true, List.lookup_cons, hx]; exact ih
      · simp only [hc, Bool.false_eq_true, if_false, List.lookup_cons, hx]; exact ih
theorem RepV.more {φ ψ : Ap} {h : Heap} (hi : ψ.ix = φ.ix) (hs : ∀ x ∈ ψ.all, x ∈ φ.all ∨ h.get? x = none) {v : Value} {d : V} (x : RepV φ h v d) : RepV ψ h v d := x.turn hi (.more hs)
theorem Kp.none {s s' : Shared} (k : Kp s s') {a : Addr} (h : s'.heap.get? a = none) : s.heap.get? a = none := by
  cases e : s.heap.get? a with
  | none => rfl
  | some o => rw [k.all a o e] at h; cases h
theorem get_ge {h : Heap} {a : Addr} (ha : h.objs.size ≤ a) : h.get? a = none := by
  cases e : h.get? a with
  | none => rfl
  | some o => exact absurd (Heap.lt_size e) (Nat.not_lt.mpr ha)
theorem StoOk.grow {hb : Heap} {φ ψ : Ap} {σ : Sto} {s s' : Shared} (O : StoOk hb φ σ s.heap) (k : Kp s s') (hi : ψ.ix = φ.ix) (hs : ∀ a ∈ ψ.pr, a ∈ φ.pr ∨ s.heap.get? a = none) (he : ∀ a ∈ ψ.pr, ∃ o, s'.heap.get? a = some o) : StoOk hb ψ σ s'.heap := by
  have O' := O.kp k
  have al : ∀ x ∈ ψ.all, x ∈ φ.all ∨ s.heap.get? x = none := fun x m => by
    rcases List.mem_append.mp m with m | m
    · exact .inl (List.mem_append_left _ (hi ▸ m))
    · exact (hs x m).imp (fun m => List.mem_append_right _ m) id
  refine ⟨O'.base, fun a m => ?_, fun a m => ?_, hi ▸ O'.nd, fun a m m' => ?_, hi ▸ O'.len, fun i l e => ?_⟩
  · rcases al a m with m | m
    · exact O.high a m
    · cases e : hb.get? a with
      | none => rfl
      | some o => rw [O.base a o e] at m; cases m
  · rcases List.mem_append.mp m with m | m
    · exact O'.low a (List.mem_append_left _ (hi ▸ m))
    · exact he a m
  · rcases hs a m' with m' | m'
    · exact O.disj a (hi ▸ m) m'
    · obtain ⟨o, e⟩ := O.low a (List.mem_append_left _ (hi ▸ m))
      rw [e] at m'; cases m'
  · obtain ⟨a, vs, e1, e2, e3⟩ := O.sto i l e
    exact ⟨a, vs, hi ▸ e1, e2.at fun o e => k.all _ o e, (e3.more al).keep (k.kb _)⟩
theorem FrOk.but {env : Env} {sc : Sc} {κ : List Addr} {h h' : Heap} {a : Addr} (x : FrOk env sc κ h) (hk : ∀ b o, b ≠ a → h.get? b = some o → h'.get? b = some o) (ha : a ∉ κ) : FrOk env sc κ h' := by
  refine ⟨?_, x.loc, fun y hy => ?_⟩
  · obtain ⟨m, n⟩ := x.ns
    exact ⟨m, n.at' fun o e => hk _ o (fun q => ha (q ▸ x.loc)) e⟩
  · obtain ⟨c, e1, e2, ⟨ov, ⟨o, e3, e4⟩⟩, e5⟩ := x.cell y hy
    exact ⟨c, e1, e2, ⟨ov, ⟨o, hk _ o (fun q => ha (q ▸ e2)) e3, e4⟩⟩, e5⟩
section
variable {prog : Program} {w : World} {hb : Heap} {mg mb : Str → Option Value} {C : Ctx} {R : Rec} {m : Nat} {sc : Sc} {ρ : Rho} {σ : Sto} {A : Around} {φ : Ap} {env : Env} {s : Shared} {E : Value → Shared → Prop}
theorem tests_false {env : Env} {Q : Bool → Shared → Prop} : ∀ {ifs : List Expr} {s : Shared}, Q false s →
    wpAny (model prog w) A (forIn ifs false fun c r => if r = true then do let ok ← isTrue c env (eval c env); pure (ForInStep.yield ok) else pure (ForInStep.yield r)) Q E s
  | [], s, h => wpAny_pure h
  | c :: r, s, h => by
    rw [List.forIn_cons]
    simp only [Bool.false_eq_true, if_false]
    exact wpAny_bind (wpAny_pure (tests_false h))
theorem tests_run (hT : ST prog w hb R m) (hA : AOk A m) {Q : Bool → Shared → Prop} : ∀ {ifs : List Expr} {b : Bool} {s : Shared}, ifsAll (R.t sc ρ σ) ifs = some b → StoOk hb φ σ s.heap → EnvOk env sc φ ρ s.heap → (∀ s', Kp s s' → Q b s') →
    wpAny (model prog w) A (forIn ifs true fun c r => if r = true then do let ok ← isTrue c env (eval c env); pure (ForInStep.yield ok) else pure (ForInStep.yield r)) Q E s
  | [], b, s, e, O, VE, h => by cases e; exact wpAny_pure (h s (Kp.refl s))
  | c :: r, b, s, e, O, VE, h => by
    rw [List.forIn_cons]
    simp only [if_true]
    refine wpAny_bind (wpAny_bind (bk e fun b' ht e => hT sc ρ σ c b' ht A φ env s _ E hA O VE fun s' k => wpAny_pure ?_))
    cases b' with
    | true => exact tests_run hT hA e (O.kp k) (VE.kp k) fun s'' k' => h s'' (k.trans k')
    | false => exact tests_false (Option.some.inj e ▸ h s' k)
end
-- S13
section
variable {prog : Program} {w : World} {hb : Heap} {mg mb : Str → Option Value} {R : Rec} {m : Nat} {sc : Sc} {ρ : Rho} {σ : Sto} {A : Around} {φ : Ap} {env : Env} {s₁ s₂ : Shared} {E : Value → Shared → Prop}
theorem clos_facts (VE : EnvOk env sc φ ρ s₁.heap) {scope : Scope} (hc : closOk scope sc ρ = true) (p : Str × NameKind) (hp : p ∈ scope.names) (hf : p.2 = .free) :
    ∃ c u v, env.cells.lookup p.1 = some c ∧ ρ.lookup p.1 = some v ∧ s₁.heap.IsCell c (some u) ∧ RepV φ s₁.heap u v ∧ (p.1 == ("__debug__" : Str)) = false ∧ (p.1 == ("__classdict__" : Str)) = false := by
  have h := List.all_eq_true.mp hc p hp
  rw [hf] at h
  simp only [beq_self_eq_true, if_true, Bool.and_eq_true, Bool.not_eq_true', Bool.or_eq_true, beq_iff_eq] at h
  obtain ⟨⟨hd, hs⟩, hk⟩ := h
  obtain ⟨v, hv⟩ := Option.isSome_iff_exists.mp hs
  obtain ⟨u, hh, hr⟩ := VE.vars p.1 v hv hd
  rcases hh with ⟨a, _⟩ | ⟨_, hcd, c, e1, e2⟩
  · have no : ∀ {k : NameKind}, sc.lookup p.1 = some k → k ≠ .local → False := fun hk hne => by
      rcases VE.sc _ _ hk with b | ⟨_, b⟩
      · exact hne (Option.some.inj (b.symm.trans a))
      · exact nomatch Option.some.inj (b.symm.trans a)
    exact (hk.elim (fun hk => no hk (by decide)) fun hk => no hk (by decide)).elim
  · exact ⟨c, u, v, e1, hv, e2, hr, hd, hcd⟩
noncomputable abbrev cPsi (φ : Ap) (κ : List Addr) (I Dn : Addr) : Ap := ⟨φ.ix, Dn :: I :: (κ ++ φ.pr)⟩
structure CB (hb : Heap) (φ : Ap) (ρ : Rho) (σ : Sto) (s₁ : Shared) (scope : Scope) (cenv : Env) (κ : List Addr) (I Dn : Nat) : Prop where
  O : StoOk hb φ σ s₁.heap
  hI : s₁.heap.get? I = none
  hIlt : I < Dn
  hge : ∀ a : Nat, Dn ≤ a → s₁.heap.get? a = none
  hκge : ∀ a : Nat, a ∈ κ → Dn + 1 ≤ a
  hCκ : Dn + 1 ∈ κ
  cloc : cenv.locals = Dn + 1
  base : ∀ s', Kp s₁ s' → EnvOk cenv scope.names (cPsi φ κ I Dn) (freeOf scope.names ρ) s'.heap
structure CS (φ : Ap) (s₁ : Shared) (scope : Scope) (cenv : Env) (κ : List Addr) (I Dn : Nat) (St : Nat → Heap → Prop) (i : Nat) (vs : List Value) (pre : List D) (t : Shared) : Prop where
  K : Kp s₁ t
  st : St i t.heap
  pl : t.heap.PlainList Dn (List.toArray vs)
  ra : RepA (cPsi φ κ I Dn).all t.heap vs pre
  F : FrOk cenv scope.names κ t.heap
  ex : ∀ a ∈ κ, ∃ o, t.heap.get? a = some o
section
variable {scope : Scope} {cenv : Env} {κ : List Addr} {I Dn : Nat} {St : Nat → Heap → Prop} {i : Nat} {vs : List Value} {pre : List D} {t : Shared}
theorem CB.hDκ (B : CB hb φ ρ σ s₁ scope cenv κ I Dn) : Dn ∉ κ := fun q => Nat.not_succ_le_self _ (B.hκge _ q)
theorem CB.hIκ (B : CB hb φ ρ σ s₁ scope cenv κ I Dn) : I ∉ κ := fun q => absurd (Nat.lt_of_lt_of_le B.hIlt (Nat.le_succ Dn)) (Nat.not_lt.mpr (B.hκge I q))
theorem CB.pr (B : CB hb φ ρ σ s₁ scope cenv κ I Dn) : ∀ a ∈ (cPsi φ κ I Dn).pr, a ∈ φ.pr ∨ s₁.heap.get? a = none := fun a ha => by
  rcases List.mem_cons.mp ha with e | ha
  · exact .inr (B.hge a (Nat.le_of_eq e.symm))
  rcases List.mem_cons.mp ha with e | ha
  · exact .inr (e ▸ B.hI)
  rcases List.mem_append.mp ha with ha | ha
  · exact .inr (B.hge a (Nat.le_of_succ_le (B.hκge a ha)))
  · exact .inl ha
theorem CB.all (B : CB hb φ ρ σ s₁ scope cenv κ I Dn) : ∀ a ∈ (cPsi φ κ I Dn).all, a ∈ φ.all ∨ s₁.heap.get? a = none := fun a ha =>
  (List.mem_append.mp ha).elim (fun ha => .inl (List.mem_append_left _ ha)) fun ha => (B.pr a ha).imp (fun q => List.mem_append_right _ q) id
theorem psi_κ (φ : Ap) (κ : List Addr) (I Dn : Addr) : ∀ a ∈ κ, a ∈ (cPsi φ κ I Dn).pr := fun _ ha => List.mem_cons_of_mem _ (List.mem_cons_of_mem _ (List.mem_append_left _ ha))
theorem psi_D (φ : Ap) (κ : List Addr) (I Dn : Addr) : Dn ∈ (cPsi φ κ I Dn).all := List.mem_append_right _ List.mem_cons_self
theorem psi_I (φ : Ap) (κ : List Addr) (I Dn : Addr) : I ∈ (cPsi φ κ I Dn).all := List.mem_append_right _ (List.mem_cons_of_mem _ List.mem_cons_self)
theorem CB.notI (B : CB hb φ ρ σ s₁ scope cenv κ I Dn) {b : Addr} {o : Obj} (hb : s₁.heap.get? b = some o) : b ≠ I := fun q => no_get hb (q ▸ B.hI)
theorem CB.notD (B : CB hb φ ρ σ s₁ scope cenv κ I Dn) {b : Addr} {o : Obj} (hb : s₁.heap.get? b = some o) : b ≠ Dn := fun q => no_get hb (B.hge b (Nat.le_of_eq q.symm))
theorem CB.notκ (B : CB hb φ ρ σ s₁ scope cenv κ I Dn) {b : Addr} {o : Obj} (hb : s₁.heap.get? b = some o) : b ∉ κ := fun q => no_get hb (B.hge b (Nat.le_of_succ_le (B.hκge b q)))
theorem CB.sto (B : CB hb φ ρ σ s₁ scope cenv κ I Dn) (S : CS φ s₁ scope cenv κ I Dn St i vs pre t) (hIe : ∀ i h, St i h → ∃ o, h.get? I = some o) : StoOk hb (cPsi φ κ I Dn) σ t.heap := by
  refine B.O.grow S.K rfl B.pr fun a ha => ?_
  rcases List.mem_cons.mp ha with e | ha
  · exact e ▸ S.pl.elim fun _ h => ⟨_, h⟩
  rcases List.mem_cons.mp ha with e | ha
  · exact e ▸ hIe _ _ S.st
  rcases List.mem_append.mp ha with ha | ha
  · exact S.ex a ha
  · exact (B.O.kp S.K).low a (List.mem_append_right _ ha)
theorem CS.item (B : CB hb φ ρ σ s₁ scope cenv κ I Dn) (S : CS φ s₁ scope cenv κ I Dn St i vs pre t) {St' : Nat → Heap → Prop} {j : Nat} {h₁ : Heap} {tk₁ : Nat} (hk : ∀ b o, b ∉ [I] → t.heap.get? b = some o → h₁.get? b = some o) (st : St' j h₁) : CS φ s₁ scope cenv κ I Dn St' j vs pre { t with heap := h₁, toks := tk₁ } := by
  have hk : ∀ b o, b ≠ I → t.heap.get? b = some o → h₁.get? b = some o := fun b o hb => hk b o fun q => hb (List.mem_singleton.mp q)
  refine ⟨?_, st, S.pl.at fun o eo => hk _ o (Ne.symm (Nat.ne_of_lt B.hIlt)) eo, S.ra.keep fun b o hb eo => hk b o (fun q => hb (q ▸ psi_I φ κ I Dn)) eo, S.F.but hk B.hIκ, fun a ha => (S.ex a ha).imp fun o eo => hk a o (fun q => B.hIκ (q ▸ ha)) eo⟩
  obtain ⟨hh, tt, rfl, kk⟩ := S.K
  exact ⟨h₁, tk₁, rfl, fun b o eo => hk b o (B.notI eo) (kk b o eo)⟩
theorem CS.kp (S : CS φ s₁ scope cenv κ I Dn St i vs pre t) {t' : Shared} (kk : Kp t t') (st : St i t'.heap) : CS φ s₁ scope cenv κ I Dn St i vs pre t' :=
  ⟨S.K.trans kk, st, S.pl.at fun o eo => kk.all _ o eo, S.ra.keep (kk.kb _), S.F.kp kk, fun a ha => (S.ex a ha).imp fun o eo => kk.all _ o eo⟩
theorem CS.pk (B : CB hb φ ρ σ s₁ scope cenv κ I Dn) (S : CS φ s₁ scope cenv κ I Dn St i vs pre t) {t' : Shared} (pk : Pk κ t t') (st : St i t'.heap) (F : FrOk cenv scope.names κ t'.heap) (ex : ∀ a ∈ κ, ∃ o, t'.heap.get? a = some o) : CS φ s₁ scope cenv κ I Dn St i vs pre t' := by
  refine ⟨?_, st, S.pl.at fun o eo => pk.kb _ o B.hDκ eo, S.ra.keep (pk.all (psi_κ φ κ I Dn)), F, ex⟩
  obtain ⟨hh, tt, rfl, kk⟩ := S.K
  obtain ⟨h2, t2, rfl, kb₂⟩ := pk
  exact ⟨h2, t2, rfl, fun b o eo => kb₂ b o (B.notκ eo) (kk b o eo)⟩
theorem CS.app (B : CB hb φ ρ σ s₁ scope cenv κ I Dn) (S : CS φ s₁ scope cenv κ I Dn St i vs pre t) {h₇ : Heap} {u : Value} {y : D} (r : RepD (cPsi φ κ I Dn).all t.heap u y) (pl : h₇.PlainList Dn (vs.toArray.push u)) (sb : Heap.SameBut Dn t.heap h₇) (st : St i h₇) : CS φ s₁ scope cenv κ I Dn St i (vs ++ [u]) (pre ++ [y]) { t with heap := h₇ } := by
  have hk : ∀ b o, b ≠ Dn → t.heap.get? b = some o → h₇.get? b = some o := fun b o hb eo => (sb.2 b hb).trans eo
  refine ⟨?_, st, List.push_toArray vs u ▸ pl, (S.ra.append (.cons r .nil)).keep fun b o hb eo => hk b o (fun q => hb (q ▸ psi_D φ κ I Dn)) eo, S.F.but hk B.hDκ, fun a ha => (S.ex a ha).imp fun o eo => hk a o (fun q => B.hDκ (q ▸ ha)) eo⟩
  obtain ⟨hh, tt, rfl, kk⟩ := S.K
  exact ⟨h₇, tt, rfl, fun b o eo => hk b o (B.notD eo) (kk b o eo)⟩
theorem drop_at_len {α : Type} {l : List α} {i : Nat} {d : α} (e : l[i]? = some d) : l.drop i = d :: l.drop (i + 1) := by
  obtain ⟨h, rfl⟩ := List.getElem?_eq_some_iff.mp e
  exact List.drop_eq_getElem_cons h
inductive CI (R : Rec) (σ : Sto) (target elt : Expr) (ifs : List Expr) (ρ : Rho) (l ds : List D) (φ : Ap) (s₁ : Shared) (scope : Scope) (cenv : Env) (κ : List Addr) (I Dn : Nat) (St : Nat → Heap → Prop) (k : Nat) (t : Shared) : Prop
  | mk (i : Nat) (vs : List Value) (pre rest : List D) (hk : k = l.length + 1 - i) (hi : i ≤ l.length) (hvi : vs.length ≤ i) (S : CS φ s₁ scope cenv κ I Dn St i vs pre t) (er : compGo R scope.names σ target elt ifs (freeOf scope.names ρ) (l.drop i) = some rest) (ed : ds = pre ++ rest)
theorem CI.next {R : Rec} {target elt : Expr} {ifs : List Expr} {l ds rest : List D} (hi : i < l.length) (hvi : vs.length ≤ i + 1) (S : CS φ s₁ scope cenv κ I Dn St (i + 1) vs pre t) (er : compGo R scope.names σ target elt ifs (freeOf scope.names ρ) (l.drop (i + 1)) = some rest) (ed : ds = pre ++ rest) :
    ∃ m, m < l.length + 1 - i ∧ CI R σ target elt ifs ρ l ds φ s₁ scope cenv κ I Dn St m t := ⟨l.length + 1 - (i + 1), Nat.sub_lt_sub_left (Nat.lt_succ_of_lt hi) (Nat.lt_succ_self i), i + 1, vs, pre, rest, rfl, hi, hvi, S, er, ed⟩
theorem comp_item (hR : SE prog w hb R m) (hT : ST prog w hb R m) (hA : AOk A m) {elt target iter : Expr} {ifs : List Expr} {l ds rest : List D} (htn : (targetNames target).all (canStore scope.names) = true) (hl : l.length ≤ 16777216)
    (B : CB hb φ ρ σ s₁ scope cenv κ I Dn) (hIe : ∀ i h, St i h → ∃ o, h.get? I = some o) (frame : ∀ j (h h' : Heap), St j h → (∀ b o, b ≠ Dn → b ∉ κ → h.get? b = some o → h'.get? b = some o) → St j h')
    (hi : i < l.length) (hvi : vs.length ≤ i) (S : CS φ s₁ scope cenv κ I Dn St (i + 1) vs pre t) {d : D} {v : Value} (rd : RepD (cPsi φ κ I Dn).all t.heap v d) (ed : l[i]? = some d)
    (er : compGo R scope.names σ target elt ifs (freeOf scope.names ρ) (l.drop i) = some rest) (eds : ds = pre ++ rest) :
    wpAny (model prog w) A (assign target cenv v) (fun _ t₂ => wpAny (model prog w) A (forIn ifs true fun c r => if r = true then do let ok ← isTrue c cenv (eval c cenv); pure (ForInStep.yield ok) else pure (ForInStep.yield r)) (fun ok t₃ =>
      if ok = true then wpAny (model prog w) A (eval elt cenv) (fun x t₄ => wpAny (model prog w) A (call (.builtin "list.append") [.ref Dn, x]) (fun _ t₅ => ∃ m, m < l.length + 1 - i ∧ CI R σ target elt ifs ρ l ds φ s₁ scope cenv κ I Dn St m t₅) E t₄) E t₃
      else ∃ m, m < l.length + 1 - i ∧ CI R σ target elt ifs ρ l ds φ s₁ scope cenv κ I Dn St m t₃) E t₂) E t := by
  rw [drop_at_len ed] at er
  refine bk er fun ρ' eb er => bk er fun b ht er => ?_
  refine target_ok hA.1 (B.sto S hIe) (B.base _ S.K) (psi_κ φ κ I Dn) S.F eb htn (.p rd) fun t₂ pk₂ O₂ V₂ F₂ => tests_run hT hA ht O₂ V₂ fun t₃ k₃ => ?_
  have S₂ := S.pk B pk₂ (frame _ _ _ S.st fun b o _ hb eo => pk₂.kb b o hb eo) F₂ fun a ha => O₂.low a (List.mem_append_right _ (psi_κ φ κ I Dn a ha))
  cases b with
  | false => exact CI.next hi (Nat.le_succ_of_le hvi) (S₂.kp k₃ (frame _ _ _ S₂.st fun b o _ _ eo => k₃.all b o eo)) er eds
  | true =>
    refine bk er fun yv ey er => bk er fun y eyd er => mk' er fun rest' er' e3 => ?_
    refine hR scope.names ρ' σ elt yv ey A (cPsi φ κ I Dn) cenv t₃ _ E hA (O₂.kp k₃) (V₂.kp k₃) fun u t₆ k₆ r₆ => ?_
    have k₂₆ := k₃.trans k₆
    have S₆ := S₂.kp k₂₆ (frame _ _ _ S₂.st fun b o _ _ eo => k₂₆.all b o eo)
    refine wpAny_list_append_plain (items := vs.toArray) (hsz := by rw [sizeLine_eq, List.size_toArray]; omega) S₆.pl fun h₇ pl₇ sb₇ => ?_
    refine CI.next hi (by rw [List.length_append]; exact Nat.succ_le_succ hvi) (S₆.app B (rD r₆ eyd) pl₇ sb₇ (frame _ _ _ S₆.st fun b o hb _ eo => (sb₇.2 b hb).trans eo)) er' (by rw [eds, ← e3, List.append_assoc]; rfl)
theorem comp_loop (hR : SE prog w hb R m) (hT : ST prog w hb R m) (hA : AOk A m) {elt target iter : Expr} {ifs : List Expr} {pos : Pos} {l ds : List D} (htn : (targetNames target).all (canStore scope.names) = true) (hl : l.length ≤ 16777216)
    (B : CB hb φ ρ σ s₁ scope cenv κ I Dn) {fp : List Addr} {n : Nat} {P : Nat → Value → Prop} (hn : n = l.length) (W : Walks prog w A I fp [I] n P St) {xv : V} (hfp : ∀ b ∈ fp, b = I ∨ ((b ∉ φ.all ∨ ∃ i, xv = .own i ∧ φ.ix[i]? = some b) ∧ ∃ o, s₁.heap.get? b = some o))
    (hitem : ∀ i v, i < n → P i v → ∀ ψ h', (∀ x ∈ ψ, x ∈ φ.all ∨ s₁.heap.get? x = none) → Kb ψ s₁.heap h' → ∃ d, l[i]? = some d ∧ RepD ψ h' v d)
    (hIe : ∀ i h, St i h → ∃ o, h.get? I = some o) (href : ∀ i v h, P i v → St (i + 1) h → (∀ a, v ≠ .ref a) ∨ ∃ o n, h.get? I = some o ∧ o.cls = .type n ∧ ownKinds.contains n = false)
    {RR : Result → Shared → Prop} (hRR : ∀ t vs, CS φ s₁ scope cenv κ I Dn (fun _ _ => True) 0 vs ds t → RR (.ok .next) t) (S : CS φ s₁ scope cenv κ I Dn St 0 [] [] t) (e : compGo R scope.names σ target elt ifs (freeOf scope.names ρ) l = some ds) :
    codeAny (model prog w) A (.compLoop (.ListComp elt [⟨target, iter, ifs, 0⟩] scope pos) 0 (.ref I) (.ref Dn) cenv) RR t := by
  have frame : ∀ j (h h' : Heap), St j h → (∀ b o, b ≠ Dn → b ∉ κ → h.get? b = some o → h'.get? b = some o) → St j h' := fun j h h' hst hk => W.frame j h h' hst fun b hb o eo => by
    rcases hfp b hb with q | ⟨_, o', q⟩
    · exact hk b o (q ▸ Nat.ne_of_lt B.hIlt) (q ▸ B.hIκ) eo
    · exact hk b o (B.notD q) (B.notκ q) eo
  refine compLoop_my (CI R σ target elt ifs ρ l ds φ s₁ scope cenv κ I Dn St) (fun k t E' X => ?_) (l.length + 1) ⟨0, [], [], ds, rfl, Nat.zero_le _, Nat.le_refl _, S, e, rfl⟩
  cases X with
  | mk i vs pre rest hk hi hvi S er ed =>
    subst hk
    by_cases hlt : i < l.length
    · refine W.item i t _ _ (hn ▸ hlt) S.st fun v h₁ tk₁ hP st₁ hk₁ => ?_
      have S₁ := S.item B (tk₁ := tk₁) hk₁ st₁
      obtain ⟨d, edi, rd⟩ := hitem i v (hn ▸ hlt) hP (cPsi φ κ I Dn).all h₁ B.all (S₁.K.kb _)
      exact letOwned_my ((href i v h₁ hP st₁).imp id fun ⟨o, nn, a, b, c⟩ => ⟨I, o, nn, rfl, a, b, c⟩) (comp_item (iter := iter) hR hT hA htn hl B hIe frame hlt hvi S₁ rd edi er ed)
    · obtain rfl : i = l.length := Nat.le_antisymm hi (Nat.not_lt.mp hlt)
      refine W.done t _ _ (hn ▸ S.st) fun h₁ tk₁ hk₁ => ?_
      rw [List.drop_length] at er
      have hds : ds = pre := by rw [ed, ← Option.some.inj er, List.append_nil]
      exact hRR _ vs (hds ▸ S.item B hk₁ trivial)
end
theorem no_cell {x : Str} {names : List (Str × NameKind)} : (names.map (·.1)).Nodup → names.lookup x = some .free → (x, NameKind.cell) ∉ names := by
  induction names with
  | nil => intro _ _ h; cases h
  | cons p q ih =>
    intro hn hl hm
    obtain ⟨y, k⟩ := p
    rw [List.lookup_cons] at hl
    have hn := List.nodup_cons.mp hn
    cases hb : x == y with
    | true =>
      rw [hb] at hl
      rcases List.mem_cons.mp hm with q' | q'
      · exact nomatch (Prod.mk.inj q').2.trans (Option.some.inj hl)
      · exact hn.1 (eq_of_beq hb ▸ List.mem_map.mpr ⟨_, q', rfl⟩)
    | false =>
      rw [hb] at hl
      rcases List.mem_cons.mp hm with q' | q'
      · rw [(Prod.mk.inj q').1, beq_self_eq_true] at hb; contradiction
      · exact ih hn.2 hl q'
theorem free_of {x : Str} {v : V} {scope : Scope} (hx : (freeOf scope.names ρ).lookup x = some v) : scope.names.lookup x = some .free ∧ ρ.lookup x = some v := by
  unfold freeOf at hx
  rw [lookup_filter (fun y => scope.names.lookup y == some .free) x ρ] at hx
  exact gk hx fun hq hx => ⟨eq_of_beq hq, hx⟩
theorem psi_new {κ : List Addr} {I Dn : Nat} (hI : s₁.heap.get? I = none) (hge : ∀ a : Nat, Dn ≤ a → s₁.heap.get? a = none) (hκge : ∀ a : Nat, a ∈ κ → Dn + 1 ≤ a) : ∀ a ∈ (cPsi φ κ I Dn).all, a ∈ φ.all ∨ s₁.heap.get? a = none := fun a ha => by
  rcases List.mem_append.mp ha with ha | ha
  · exact .inl (List.mem_append_left _ ha)
  rcases List.mem_cons.mp ha with e | ha
  · exact .inr (hge a (Nat.le_of_eq e.symm))
  rcases List.mem_cons.mp ha with e | ha
  · exact .inr (e ▸ hI)
  rcases List.mem_append.mp ha with ha | ha
  · exact .inr (hge a (Nat.le_of_succ_le (hκge a ha)))
  · exact .inl (List.mem_append_right _ ha)
theorem comp_base (VE : EnvOk env sc φ ρ s₁.heap) {scope : Scope} (hc : closOk scope sc ρ = true) (hkind : scope.kind = .function) (hnd : (scope.names.map (·.1)).Nodup) {κ : List Addr} {I Dn : Nat} (hψ : ∀ a ∈ (cPsi φ κ I Dn).all, a ∈ φ.all ∨ s₁.heap.get? a = none) (s' : Shared) (k : Kp s₁ s') :
    EnvOk (cEnv scope (closGo env scope.names []) (Dn + 1) env) scope.names (cPsi φ κ I Dn) (freeOf scope.names ρ) s'.heap := by
  refine ⟨hkind, VE.glob, VE.blt, fun x k hx => lookup_relabel hx, fun x v hx hd => ?_⟩
  obtain ⟨hf, hv⟩ := free_of hx
  obtain ⟨c, u, v', a1, a2, a3, a4, a5, a6⟩ := clos_facts VE hc (x, .free) (mem_of_lookup hf) rfl
  obtain rfl := Option.some.inj (hv.symm.trans a2)
  refine ⟨u, .inr ⟨(lookup_relabel hf).elim .inr fun q => .inl q.2, a6, c, ?_, a3.keeps k.all⟩, (RepV.more (φ := φ) (ψ := cPsi φ κ I Dn) rfl hψ a4).keep (k.kb _)⟩
  exact (cf_old _ _ _ _ (no_cell hnd hf)).trans (closGo_lookup a1 _ _ (.inl (mem_of_lookup hf)) fun c' h => nomatch h)
theorem comp_frame {scope : Scope} {cenv : Env} {Dn : Nat} {cl cs : List (Str × Addr)} {κ : List Addr} {H2 H4 : Heap} (hcs : cellsFrom (Dn + 1 + 1) scope.names cl = cs) (cloc : cenv.locals = Dn + 1) (ccells : cenv.cells = cs) (hκ : List.cons (Dn + 1) ((cs.filter fun p => decide (Dn + 1 + 1 ≤ p.2)).map (·.2)) = κ)
    (hcllt : ∀ x (c : Nat), (x, c) ∈ cl → c < Dn + 1) (hC : H2.objs.size = Dn + 1) (hH4 : pushCells (H2.push { cls := .type "dict", data := .dict #[] }) scope.names = H4) : FrOk cenv scope.names κ H4 ∧ ∀ a ∈ κ, ∃ o, H4.get? a = some o := by
  have ns₄ : H4.Ns (Dn + 1) fun _ => none := by
    have := Heap.Ns.new H2 (.type "dict")
    rw [hC] at this
    rw [← hH4]; exact this.keeps (pushCells_keeps _ _)
  have cells₄ : ∀ y (c : Nat), (y, c) ∈ cs → Dn + 1 + 1 ≤ c → H4.IsCell c none := by
    have := cf_cells scope.names (H2.push { cls := .type "dict", data := .dict #[] }) cl (Dn + 1 + 1) (fun y (c : Nat) hy hc' => absurd (hcllt y c hy) (Nat.not_lt.mpr (Nat.le_of_succ_le hc'))) (by rw [Heap.size_push, hC]; exact Nat.le_refl _)
    rw [Heap.size_push, hC, hcs, hH4] at this
    exact this
  refine ⟨⟨⟨_, cloc ▸ ns₄⟩, cloc ▸ hκ ▸ List.mem_cons_self, fun x hx => ?_⟩, fun a ha => ?_⟩
  · obtain ⟨c, hc1, hc2⟩ := cf_new scope.names (Dn + 1 + 1) cl x (mem_of_lookup hx)
    rw [hcs] at hc2
    refine ⟨c, ccells ▸ hc2, ?_, ⟨none, cells₄ x c (mem_of_lookup hc2) hc1⟩, fun y hy => ?_⟩
    · rw [← hκ]
      exact List.mem_cons_of_mem _ (List.mem_map.mpr ⟨(x, c), List.mem_filter.mpr ⟨mem_of_lookup hc2, decide_eq_true hc1⟩, rfl⟩)
    · rw [ccells] at hy
      have := cf_apart scope.names (Dn + 1 + 1) cl (Dn + 1 + 1) (fun y z (c : Nat) hy _ hc' => absurd (hcllt y c hy) (Nat.not_lt.mpr (Nat.le_of_succ_le hc'))) (fun y (c : Nat) hy => Nat.lt_succ_of_lt (hcllt y c hy)) (Nat.le_refl _)
      rw [hcs] at this
      exact this y x c (mem_of_lookup hy) (mem_of_lookup hc2) hc1
  · rw [← hκ] at ha
    rcases List.mem_cons.mp ha with e | ha
    · obtain ⟨o, _, _, eo, _⟩ := ns₄
      exact ⟨o, e ▸ eo⟩
    · obtain ⟨p, hp, rfl⟩ := List.mem_map.mp ha
      obtain ⟨h1, h2⟩ := List.mem_filter.mp hp
      exact (cells₄ p.1 p.2 h1 (of_decide_eq_true h2)).imp fun _ z => z.1
theorem clos_low (VE : EnvOk env sc φ ρ s₁.heap) {scope : Scope} (hc : closOk scope sc ρ = true) {x : Str} {c : Addr} (h : (x, c) ∈ closGo env scope.names []) : ∃ o, s₁.heap.get? c = some o := by
  rcases closGo_mem scope.names [] x c h with h | ⟨h1, h2⟩
  · cases h
  · obtain ⟨c', u, v, a1, a2, a3, _⟩ := clos_facts VE hc (x, .free) h1 rfl
    obtain rfl := Option.some.inj (h2.symm.trans a1)
    exact a3.imp fun _ z => z.1
theorem κ_ge {Dn : Nat} {cs : List (Str × Addr)} : ∀ a : Nat, a ∈ List.cons (Dn + 1) ((cs.filter fun p => decide (Dn + 1 + 1 ≤ p.2)).map (·.2)) → Dn + 1 ≤ a := fun a ha => by
  rcases List.mem_cons.mp ha with e | ha
  · exact Nat.le_of_eq e.symm
  · obtain ⟨p, hp, rfl⟩ := List.mem_map.mp ha
    exact Nat.le_of_succ_le (of_decide_eq_true (List.mem_filter.mp hp).2)
theorem psi_out {κ : List Addr} {I Dn : Nat} (h : Dn + 1 ∈ κ) : ∀ x ∈ ((Dn + 1 : Nat) :: φ.all : List Addr), x ∈ (cPsi φ κ I Dn).all := fun x hx => by
  rcases List.mem_cons.mp hx with q | q
  · exact q ▸ List.mem_append_right _ (psi_κ φ κ I Dn _ h)
  · rcases List.mem_append.mp q with q | q
    · exact List.mem_append_left _ q
    · exact List.mem_append_right _ (List.mem_cons_of_mem _ (List.mem_cons_of_mem _ (List.mem_append_right _ q)))
theorem comp_block (hR : SE prog w hb R m) (hT : ST prog w hb R m) (hA : AOk A m) (O : StoOk hb φ σ s₁.heap) (VE : EnvOk env sc φ ρ s₁.heap)
    {elt target iter : Expr} {ifs : List Expr} {scope : Scope} {pos : Pos} {l ds : List D} (hc : closOk scope sc ρ = true) (hs : scopeOk scope target = true) (hl : l.length ≤ 16777216) (e : compGo R scope.names σ target elt ifs (freeOf scope.names ρ) l = some ds)
    {I : Addr} {fp : List Addr} {n : Nat} {P : Nat → Value → Prop} {St : Nat → Heap → Prop} (hn : n = l.length) (k₂ : Kp s₁ s₂) (hI : s₁.heap.get? I = none) (W : Walks prog w A I fp [I] n P St) (st0 : St 0 s₂.heap)
    {xv : V} (hfp : ∀ b ∈ fp, b = I ∨ ((b ∉ φ.all ∨ ∃ i, xv = .own i ∧ φ.ix[i]? = some b) ∧ ∃ o, s₁.heap.get? b = some o))
    (hitem : ∀ i v, i < n → P i v → ∀ ψ h', (∀ x ∈ ψ, x ∈ φ.all ∨ s₁.heap.get? x = none) → Kb ψ s₁.heap h' → ∃ d, l[i]? = some d ∧ RepD ψ h' v d)
    (hIe : ∀ i h, St i h → ∃ o, h.get? I = some o) (href : ∀ i v h, P i v → St (i + 1) h → (∀ a, v ≠ .ref a) ∨ ∃ o n, h.get? I = some o ∧ o.cls = .type n ∧ ownKinds.contains n = false)
    {RR : Value → Addr → Result → Shared → Prop}
    (hRR : ∀ D Cc s' vs, s₁.heap.get? D = none → s₁.heap.get? Cc = none → D ≠ Cc → (∃ m, s'.heap.Ns Cc m) → Kp s₁ s' → s'.heap.PlainList D (List.toArray vs) → RepA (Cc :: φ.all) s'.heap vs ds → RR (.ref D) Cc (.ok .next) s') :
    wpAny (model prog w) A (newList []) (fun acc s₃ => wpAny (model prog w) A (newFunctionEnv scope env.globals (closGo env scope.names []) [] env.qual none .none (some env)) (fun cenv s₄ =>
      codeAny (model prog w) A (.compStart (.ListComp elt [⟨target, iter, ifs, 0⟩] scope pos) 0 (.ref I) acc { cenv with scope := relabel scope env }) (RR acc cenv.locals) s₄) E s₃) E s₂ := by
  simp only [scopeOk, Bool.and_eq_true, decide_eq_true_eq] at hs
  obtain ⟨⟨⟨hkind, htn⟩, _⟩, hnd⟩ := hs
  have hkind : scope.kind = .function := eq_of_beq hkind
  refine wpAny_newObj_type (newEnv_my ?_)
  generalize hD : s₂.heap.objs.size = Dn
  generalize hH2 : s₂.heap.push { cls := .type "list", dict := none, data := .seq ([] : List Value).toArray } = H2
  have hC : H2.objs.size = Dn + 1 := by rw [← hH2, Heap.size_push, hD]
  show codeAny _ _ (.compStart _ 0 (.ref I) (.ref Dn) (cEnv scope (closGo env scope.names []) H2.objs.size env)) (RR (.ref Dn) H2.objs.size) _
  rw [hC]
  generalize hκ : List.cons (Dn + 1) (((cellsFrom (Dn + 1 + 1) scope.names (closGo env scope.names [])).filter fun p => decide (Dn + 1 + 1 ≤ p.2)).map (·.2)) = κ
  have hκge : ∀ a : Nat, a ∈ κ → Dn + 1 ≤ a := hκ ▸ κ_ge
  have hge : ∀ a : Nat, Dn ≤ a → s₁.heap.get? a = none := fun a ha => k₂.none (get_ge (hD ▸ ha))
  generalize hH4 : pushCells (H2.push { cls := .type "dict", data := .dict #[] }) scope.names = H4
  obtain ⟨F₄, ex₄⟩ := comp_frame (cenv := cEnv scope (closGo env scope.names []) (Dn + 1) env) rfl rfl rfl hκ (fun x c h => (clos_low VE hc h).elim fun o eo => Nat.lt_succ_of_lt (hD ▸ Heap.lt_size (k₂.all c o eo))) hC hH4
  have B : CB hb φ ρ σ s₁ scope (cEnv scope (closGo env scope.names []) (Dn + 1) env) κ I Dn := ⟨O, hI, hD ▸ (hIe 0 _ st0).elim fun o eo => Heap.lt_size eo, hge, hκge, hκ ▸ List.mem_cons_self, rfl, comp_base VE hc hkind hnd (psi_new hI hge hκge)⟩
  have up : ∀ b o, s₂.heap.get? b = some o → H4.get? b = some o := fun b o eo => by
    rw [← hH4]; exact pushCells_keeps _ _ b o (Heap.get?_push_of_some _ (hH2 ▸ Heap.get?_push_of_some _ eo))
  have st₄ : St 0 H4 := W.frame _ _ _ st0 fun b _ o eo => up b o eo
  have pl₄ : H4.PlainList Dn #[] := ⟨0, by
    rw [← hH4]; exact pushCells_keeps _ _ _ _ (Heap.get?_push_of_some _ (by rw [← hH2, ← hD]; exact Heap.get?_push_size _ rfl))⟩
  have go := comp_loop (RR := RR (.ref Dn) (Dn + 1)) (pos := pos) (iter := iter) hR hT hA htn hl B hn W hfp hitem hIe href (fun t vs S => hRR Dn (Dn + 1) t vs (hge _ (Nat.le_refl _)) (hge _ (Nat.le_succ _)) (Nat.ne_of_lt (Nat.lt_succ_self _)) S.F.ns S.K S.pl (S.ra.fewer (psi_out B.hCκ))) (t := { s₂ with heap := H4 }) ⟨k₂.trans ⟨H4, s₂.toks, rfl, up⟩, st₄, pl₄, .nil, F₄, ex₄⟩ e
  exact codeAny_compStart_list go (W.self 0 _ _ _ st₄ go)
end
-- S14
noncomputable def NoSet (R : Rec) : Prop := ∀ sc ρ σ es k p, R.e sc ρ σ (.Set es k p) = none
theorem noSet_ev (C : Ctx) : ∀ n, NoSet (ev C n)
  | 0 => fun _ _ _ _ _ _ => rfl
  | n + 1 => fun _ _ _ _ _ _ => rfl
section
variable {prog : Program} {w : World} {hb : Heap} {mg mb : Str → Option Value} {C : Ctx} {R : Rec} {m : Nat} {sc : Sc} {ρ : Rho} {σ : Sto} {A : Around} {φ : Ap} {env : Env} {s : Shared} {Q : Value → Shared → Prop} {E : Value → Shared → Prop}
theorem mark_free (hN : NoSet R) {r : Expr} {y : V} (h : R.e sc ρ σ r = some y) (op : CmpOp) : behindInMarks op r = false := by
  cases r <;> first | rfl | skip
  rw [hN] at h; cases h
theorem folded_free (hN : NoSet R) {r : Expr} {y : V} (h : R.e sc ρ σ r = some y) (env : Env) (x : Value) : foldedSetIterable r env x = pure x := by
  cases r <;> first | rfl | skip
  rw [hN] at h; cases h
theorem bool_run (PR : Prims prog w hb) (hR : SE prog w hb R m) (hA : AOk A m) {pos : Pos} (isAnd : Bool) {vs : List Expr} : ∀ {v : V} {s : Shared}, boolV (fun σ e => R.e sc ρ σ e) σ isAnd vs = some v → StoOk hb φ σ s.heap → EnvOk env sc φ ρ s.heap →
    (∀ u s', Kp s s' → RepV φ s'.heap u v → Q u s') → wpAny (model prog w) A (boolOp pos (if isAnd then .And else .Or) (evalEach vs env)) Q E s := by
  induction vs with
  | nil => intro v s e; exact nn e
  | cons x r ih =>
    intro v s e O VE h
    refine bk e fun v0 e0 e => ?_
    cases r with
    | nil => exact hR sc ρ σ x v (e0.trans e) A φ env s Q E hA O VE h
    | cons y r =>
      refine bk e fun b eb e => ?_
      show wpAny _ _ (eval x env >>= fun v => _) _ _ _
      refine wpAny_bind (hR sc ρ σ x v0 e0 A φ env s _ E hA O VE fun u s₁ k₁ r₁ => wpAny_bind (wpAny_standAt (wpAny_bind (wpAny_holding (op_truth PR (O.kp k₁) eb r₁ fun s₂ k₂ => ?_)))))
      have more : boolV (fun σ e => R.e sc ρ σ e) σ isAnd (y :: r) = some v → wpAny (model prog w) A (boolOp pos (if isAnd then .And else .Or) (evalEach (y :: r) env)) Q E s₂ := fun e => ih e (O.kp (k₁.trans k₂)) (VE.kp (k₁.trans k₂)) fun u s' k r => h u s' ((k₁.trans k₂).trans k) r
      have stop : some v0 = some v → wpAny (model prog w) A (pure u) Q E s₂ := fun e => wpAny_pure (hv (s := s) h e u s₂ (k₁.trans k₂) (r₁.keep (k₂.kb _)))
      cases b <;> cases isAnd
      · exact more e
      · exact stop e
      · exact stop e
      · exact more e
theorem se_list (PR : Prims prog w hb) (hR : SE prog w hb R m) (hA : AOk A m) (O : StoOk hb φ σ s.heap) (VE : EnvOk env sc φ ρ s.heap) {es : List Expr} {vs : List V} {ds : List D} {pos : Pos} (e : evs (R.e sc ρ σ) es = some vs) (ep : pures vs = some ds) (hl : es.length ≤ 1000)
    (h : ∀ u s', Kp s s' → RepV φ s'.heap u (.p (.list ds)) → Q u s') : wpAny (model prog w) A (eval (.List es pos) env) Q E s := by
  refine wpAny_List (evs_run hR hA e O VE fun us s₁ k₁ r₁ => ⟨?_, ?_⟩)
  · rw [sizeLine_eq, r₁.length, evs_length e]; exact Nat.le_trans hl (by decide)
  · exact h _ _ (k₁.trans (Kp.push' _ _)) (.p (newList_rep (O.kp k₁) (r₁.pures ep)))
theorem se_tuple (PR : Prims prog w hb) (hR : SE prog w hb R m) (hA : AOk A m) (O : StoOk hb φ σ s.heap) (VE : EnvOk env sc φ ρ s.heap) {es : List Expr} {vs : List V} {ds : List D} {k : Nat} {pos : Pos} (e : evs (R.e sc ρ σ) es = some vs) (ep : pures vs = some ds) (hl : es.length ≤ 1000)
    (h : ∀ u s', Kp s s' → RepV φ s'.heap u (.p (.tuple ds)) → Q u s') : wpAny (model prog w) A (eval (.Tuple es k pos) env) Q E s := by
  refine wpAny_Tuple (evs_run hR hA e O VE fun us s₁ k₁ r₁ => ⟨?_, ?_⟩)
  · rw [sizeLine_eq, r₁.length, evs_length e]; exact Nat.le_trans hl (by decide)
  · exact h _ _ (k₁.trans (Kp.push' _ _)) (.p (newTup_rep (O.kp k₁) (r₁.pures ep)))
theorem part_run (hR : SE prog w hb R m) (hA : AOk A m) {o : Option Expr} {v : V} {Q : Value → Shared → Prop} (e : optV R sc ρ σ o = some v) (O : StoOk hb φ σ s.heap) (VE : EnvOk env sc φ ρ s.heap)
    (h : ∀ u s', Kp s s' → RepV φ s'.heap u v → Q u s') : wpAny (model prog w) A (evalPart o env) Q E s := by
  cases o with
  | none => rw [evalPart_none]; exact wpAny_pure (hv h e _ _ (Kp.refl s) (.p .none))
  | some x => rw [evalPart_some]; exact hR sc ρ σ x v e A φ env s _ E hA O VE h
theorem op_sub (CO : CtxOk prog w hb mg C m) (hA : AOk A m) (O : StoOk hb φ σ s.heap) {value slice : Expr} {x i r : V} {u v : Value} (hsl : ∀ l h st p, slice ≠ .Slice l h st p) (e : subV C σ x i = some r) (ru : RepV φ s.heap u x) (rv : RepV φ s.heap v i)
    (h : ∀ v s', Kp s s' → RepV φ s'.heap v r → Q v s') : wpAny (model prog w) A (subscriptTail value slice u v) Q E s := by
  refine ok e (fun e => bk e fun k ek e => bk e fun d ed e => bk e fun f ef e => ?_) fun e => bk e fun j ej e => kInt v rv ej fun t => op_item O e ru h
  cases rHdr ru ek with
  | mk a b q z => exact CO.getH f ef A φ σ _ _ v _ r s value slice Q E hA O (.hdr q z) (rD rv ed) e hsl h
theorem se_comp (PR : Prims prog w hb) (hN : NoSet R) (hR : SE prog w hb R m) (hT : ST prog w hb R m) (hA : AOk A m) (O : StoOk hb φ σ s.heap) (VE : EnvOk env sc φ ρ s.heap) {elt target iter : Expr} {ifs : List Expr} {scope : Scope} {pos : Pos} {use : Option (Value → Sem Unit)} {v : V} {l ds : List D}
    (ei : R.e sc ρ σ iter = some v) (el : items? σ v = some l) (hc : closOk scope sc ρ = true) (hs : scopeOk scope target = true) (hl : l.length ≤ 16777216) (e : compGo R scope.names σ target elt ifs (freeOf scope.names ρ) l = some ds)
    (h : ∀ D Cc s' vs, Kp s s' → s.heap.get? D = none → s.heap.get? Cc = none → D ≠ Cc → (∃ m, s'.heap.Ns Cc m) → s'.heap.PlainList D (List.toArray vs) → RepA (Cc :: φ.all) s'.heap vs ds → compPost (model prog w) A E use Q (.ref D) Cc (.ok .next) s') :
    wpAny (model prog w) A (comprehension (.ListComp elt [⟨target, iter, ifs, 0⟩] scope pos) scope env (firstIterPos [⟨target, iter, ifs, 0⟩] pos) (newList []) (firstAsync [⟨target, iter, ifs, 0⟩]) (firstIter [⟨target, iter, ifs, 0⟩] env) use) Q E s := by
  have hs' := hs
  simp only [scopeOk, Bool.and_eq_true, decide_eq_true_eq] at hs'
  obtain ⟨⟨⟨hkind, htn⟩, hnm⟩, hnd⟩ := hs'
  have hnames : ∀ x ∈ scope.names, x.2 = .local → scope.names.lookup x.1 = some .local := by
    intro x hx hxl
    have := List.all_eq_true.mp hnm x hx
    rw [hxl] at this
    simpa using this
  refine wpAny_comprehension_free (use := use) rfl (folded_free hN ei env) (closureFor_my fun p hp hf => ?_) (eq_of_beq hkind) hnames (hR sc ρ σ iter v ei A φ env s _ E hA O VE fun u s₁ k₁ r₁ => ?_)
  · obtain ⟨c, _, _, h1, _⟩ := clos_facts VE hc p hp hf
    exact ⟨c, h1⟩
  · refine (walk_items hA.1 (O.kp k₁) r₁ el).run _ _ fun I s₂ fp n P St hn k₂ hI W st0 hfp hitem hIe href => ?_
    exact comp_block hR hT hA (O.kp k₁) (VE.kp k₁) hc hs hl e hn k₂ hI W st0 hfp hitem hIe href (RR := fun acc C => compPost (model prog w) A E use Q acc C)
      fun D Cc s' vs hD hC hne hns hk hpl hrep => h D Cc s' vs (k₁.trans hk) (k₁.none hD) (k₁.none hC) hne hns hpl hrep
end
-- S15
section
variable {prog : Program} {w : World} {hb : Heap} {mg mb : Str → Option Value} {C : Ctx} {R : Rec} {m : Nat}
section
variable {sc : Sc} {ρ : Rho} {σ : Sto} {A : Around} {φ : Ap} {env : Env} {s : Shared} {Q : Value → Shared → Prop} {E : Value → Shared → Prop} {v : V}
theorem slice_open (hR : SE prog w hb R m) (hA : AOk A m) (O : StoOk hb φ σ s.heap) (VE : EnvOk env sc φ ρ s.heap) {x : Expr} {lo hi st : Option Expr} {p pos : Pos} {v0 a b c : V} {a' b' c' : Option Int} (ex : R.e sc ρ σ x = some v0) (ea : optV R sc ρ σ lo = some a) (eb : optV R sc ρ σ hi = some b) (ec : optV R sc ρ σ st = some c)
    (pa : part? a = some a') (pb : part? b = some b') (pc : part? c = some c')
    (h : ∀ u s' vl vu vs sl, Kp s s' → RepV φ s'.heap u v0 → s'.heap.IsSliceOf sl vl vu vs → IsPart vl a' → IsPart vu b' → IsPart vs c' → wpAny (model prog w) A (subscriptTail x (.Slice lo hi st p) u (.ref sl)) Q E s') : wpAny (model prog w) A (eval (.Subscript x (.Slice lo hi st p) pos) env) Q E s := by
  refine Subscript_ (hR sc ρ σ x v0 ex A φ env s _ E hA O VE fun u s₁ k₁ r₁ => wpAny_Slice (part_run hR hA ea (O.kp k₁) (VE.kp k₁) fun va s₂ k₂ ra =>
    have K₂ := k₁.trans k₂
    part_run hR hA eb (O.kp K₂) (VE.kp K₂) fun vb s₃ k₃ rb => have K₃ := K₂.trans k₃; part_run hR hA ec (O.kp K₃) (VE.kp K₃) fun vc s₄ k₄ rc => ?_))
  have Kp := Kp.push' s₄ { cls := .type "slice", data := .fields #[va, vb, vc] }
  exact h u _ va vb vc _ ((K₃.trans k₄).trans Kp) (r₁.keep ((k₂.trans (k₃.trans (k₄.trans Kp))).kb _)) (Heap.IsSliceOf.new ..) (part_rep pa ra) (part_rep pb rb) (part_rep pc rc)
theorem compV_k {P : Prop} {elt : Expr} {gens : List Comprehension} {scope : Scope} (e : ((one? gens).bind fun g => compV R sc ρ σ elt g scope) = some v)
    (k : ∀ target iter ifs v0 l ds, gens = [⟨target, iter, ifs, 0⟩] → R.e sc ρ σ iter = some v0 → items? σ v0 = some l → closOk scope sc ρ = true → scopeOk scope target = true → l.length ≤ 16777216 → compGo R scope.names σ target elt ifs (freeOf scope.names ρ) l = some ds → V.p (.list ds) = v → P) : P :=
  bk e fun ⟨target, iter, ifs, n⟩ eg e => gk e fun hn e => bk e fun v0 ei e => bk e fun l el e => gk e fun hc e => mk' e fun ds ed e3 =>
    k target iter ifs v0 l ds ((one_some eg).trans (by rw [show n = 0 from eq_of_beq hn])) ei el (an (an hc).1).1 (an (an hc).1).2 (of_decide_eq_true (an hc).2) ed e3
theorem se_listcomp (PR : Prims prog w hb) (hN : NoSet R) (hR : SE prog w hb R m) (hT : ST prog w hb R m) (hA : AOk A m) (O : StoOk hb φ σ s.heap) (VE : EnvOk env sc φ ρ s.heap) {elt target iter : Expr} {ifs : List Expr} {scope : Scope} {pos : Pos} {v0 : V} {l ds : List D}
    (ei : R.e sc ρ σ iter = some v0) (el : items? σ v0 = some l) (hc : closOk scope sc ρ = true) (hs : scopeOk scope target = true) (hl : l.length ≤ 16777216) (ed : compGo R scope.names σ target elt ifs (freeOf scope.names ρ) l = some ds)
    (h : ∀ a vs s', Kp s s' → s.heap.get? a = none → s'.heap.PlainList a (List.toArray vs) → RepA φ.all s'.heap vs ds → Q (.ref a) s') : wpAny (model prog w) A (eval (.ListComp elt [⟨target, iter, ifs, 0⟩] scope pos) env) Q E s := by
  rw [eval_ListComp]
  refine se_comp PR hN hR hT hA O VE ei el hc hs hl ed fun D Cc s' vs k hD hC hne hns hpl hrep => ?_
  obtain ⟨m', hm'⟩ := hns
  refine ⟨m', hm', fun h' sb => ?_⟩
  have kk : ∀ b o, b ≠ Cc → s'.heap.get? b = some o → h'.get? b = some o := fun b o hb eo => (sb.2 b hb).trans eo
  refine h _ vs _ ?_ hD (hpl.at fun o eo => kk _ o hne eo) ((hrep.keep fun b o hb eo => kk b o (fun q => hb (q ▸ List.mem_cons_self)) eo).fewer fun x hx => List.mem_cons_of_mem _ hx)
  obtain ⟨hh, tt, rfl, kq⟩ := k
  exact ⟨h', tt, rfl, fun b o eo => kk b o (fun q => no_get eo (q ▸ hC)) (kq b o eo)⟩
theorem isSlice {i : Expr} {z : Option Expr × Option Expr × Option Expr} (h : slice? i = some z) : ∃ p, i = .Slice z.1 z.2.1 z.2.2 p := by
  cases i with
  | Slice a b c p => exact ⟨p, (Option.some.inj h) ▸ rfl⟩
  | _ => exact nn h
theorem noSlice {i : Expr} (h : (slice? i).isNone = true) : ∀ l g st p, i ≠ .Slice l g st p := fun _ _ _ _ q => by subst q; exact nf h
theorem se_sub (CO : CtxOk prog w hb mg C m) (hR : SE prog w hb R m) (hA : AOk A m) (O : StoOk hb φ σ s.heap) (VE : EnvOk env sc φ ρ s.heap) {x i : Expr} {pos : Pos} (e : stepE C R sc ρ σ (.Subscript x i pos) = some v) (h : ∀ u s', Kp s s' → RepV φ s'.heap u v → Q u s') : wpAny (model prog w) A (eval (.Subscript x i pos) env) Q E s := by
  refine ok e (fun e => bk e fun z hz e' => ?_) fun e => gk e fun hi e => bk e fun v0 ex e => bk e fun k0 ei e => Subscript_ (hR sc ρ σ x v0 ex A φ env s _ E hA O VE fun u s₁ k₁ r₁ => hR sc ρ σ i k0 ei A φ env s₁ _ E hA (O.kp k₁) (VE.kp k₁) fun u' s₂ k₂ r₂ =>
    op_sub CO hA (O.kp (k₁.trans k₂)) (noSlice hi) e (r₁.keep (k₂.kb _)) r₂ fun u s' k r => h u s' ((k₁.trans k₂).trans k) r)
  obtain ⟨p, rfl⟩ := isSlice hz
  exact bk e' fun v0 ex e => bk e fun a ea e => bk e fun b eb e => bk e fun c ec e => bk e fun a' pa e => bk e fun b' pb e => bk e fun c' pc e => slice_open hR hA O VE ex ea eb ec pa pb pc fun u s' vl vu vs sl k r hs p1 p2 p3 => op_slice (O.kp k) e r hs p1 p2 p3 fun u s'' k' r' => h u s'' (k.trans k') r'
theorem se_un (PR : Prims prog w hb) (hR : SE prog w hb R m) (hA : AOk A m) (O : StoOk hb φ σ s.heap) (VE : EnvOk env sc φ ρ s.heap) {op : UnaryOp} {x : Expr} {pos : Pos} (e : stepE C R sc ρ σ (.UnaryOp op x pos) = some v) (h : ∀ u s', Kp s s' → RepV φ s'.heap u v → Q u s') : wpAny (model prog w) A (eval (.UnaryOp op x pos) env) Q E s := by
  refine bk e fun v0 ex e => wpAny_UnaryOp (hR sc ρ σ x v0 ex A φ env s _ E hA O VE fun u s₁ k₁ r₁ => ?_)
  have h' : ∀ u s', Kp s₁ s' → RepV φ s'.heap u v → Q u s' := fun u s' k r => h u s' (k₁.trans k) r
  cases op with
  | Not => exact mk' e fun b eb e => PyProof.Rows.not_of (op_truth PR (O.kp k₁) eb r₁ fun s₂ k₂ => hq h' e _ _ k₂ (.p (.bool _)))
  | USub => exact mk' e fun i ei e => kInt u r₁ ei fun t => PyProof.Rows.neg_int (hq h' e _ _ (Kp.toks _ _) (.p (.int _ _)))
  | Invert => exact mk' e fun i ei e => kInt u r₁ ei fun t => PyProof.Rows.invert_int (hq h' e _ _ (Kp.toks _ _) (.p (.int _ _)))
  | UAdd => exact nn e
theorem se_bin (PR : Prims prog w hb) (hR : SE prog w hb R m) (hA : AOk A m) (O : StoOk hb φ σ s.heap) (VE : EnvOk env sc φ ρ s.heap) {op : Operator} {x y : Expr} {pos : Pos} (e : stepE C R sc ρ σ (.BinOp x op y pos) = some v) (h : ∀ u s', Kp s s' → RepV φ s'.heap u v → Q u s') : wpAny (model prog w) A (eval (.BinOp x op y pos) env) Q E s :=
  bk e fun a ex e => bk e fun b ey e => wpAny_BinOp (hR sc ρ σ x a ex A φ env s _ E hA O VE fun u s₁ k₁ r₁ => hR sc ρ σ y b ey A φ env s₁ _ E hA (O.kp k₁) (VE.kp k₁) fun u' s₂ k₂ r₂ =>
    op_bin (O.kp (k₁.trans k₂)) e (r₁.keep (k₂.kb _)) r₂ (fun a b t v r z z' h => PR.hmod a b t v r z z' h) fun u s' k r => h u s' ((k₁.trans k₂).trans k) r)
theorem se_cmp (CO : CtxOk prog w hb mg C m) (hm : 10 ≤ m) (hN : NoSet R) (hR : SE prog w hb R m) (hA : AOk A m) (O : StoOk hb φ σ s.heap) (VE : EnvOk env sc φ ρ s.heap) {ops : List CmpOp} {x : Expr} {ys : List Expr} {pos : Pos} (e : stepE C R sc ρ σ (.Compare x ops ys pos) = some v) (h : ∀ u s', Kp s s' → RepV φ s'.heap u v → Q u s') : wpAny (model prog w) A (eval (.Compare x ops ys pos) env) Q E s := by
  refine bk e fun op eo e => bk e fun y ey e => ?_
  rw [one_some eo, one_some ey]
  exact bk e fun a ex e => bk e fun b ey e => mk' e fun c ec e => wpAny_Compare1 (hR sc ρ σ x a ex A φ env s _ E hA O VE fun u s₁ k₁ r₁ => hR sc ρ σ y b ey A φ env s₁ _ E hA (O.kp k₁) (VE.kp k₁) fun u' s₂ k₂ r₂ =>
    op_cmp CO hm (O.kp (k₁.trans k₂)) hA ec (r₁.keep (k₂.kb _)) r₂ fun s' k => hq h e _ s' ((k₁.trans k₂).trans k) (.p (.bool c))) (mark_free hN ey op)
theorem se_if (hR : SE prog w hb R m) (hT : ST prog w hb R m) (hA : AOk A m) (O : StoOk hb φ σ s.heap) (VE : EnvOk env sc φ ρ s.heap) {t b o : Expr} {pos : Pos} (e : stepE C R sc ρ σ (.IfExp t b o pos) = some v) (h : ∀ u s', Kp s s' → RepV φ s'.heap u v → Q u s') : wpAny (model prog w) A (eval (.IfExp t b o pos) env) Q E s := by
  refine bk e fun c et e => wpAny_IfExp (hT sc ρ σ t c et A φ env s _ E hA O VE fun s₁ k₁ => ?_)
  cases c with
  | true => exact hR sc ρ σ b v e A φ env s₁ _ E hA (O.kp k₁) (VE.kp k₁) fun u s' k r => h u s' (k₁.trans k) r
  | false => exact hR sc ρ σ o v e A φ env s₁ _ E hA (O.kp k₁) (VE.kp k₁) fun u s' k r => h u s' (k₁.trans k) r
theorem isAttr {f : Expr} {z : Expr × Str × Pos} (h : attr? f = some z) : f = .Attribute z.1 z.2.1 z.2.2 := by
  cases f with
  | Attribute a b c => exact (Option.some.inj h) ▸ rfl
  | _ => exact nn h
theorem se_call (B : Base hb mg mb) (PR : Prims prog w hb) (CO : CtxOk prog w hb mg C m) (hm : 10 ≤ m) (hR : SE prog w hb R m) (hA : AOk A m) (O : StoOk hb φ σ s.heap) (VE : EnvOk env sc φ ρ s.heap) {f : Expr} {args : List Expr} {kws : List Keyword} {pos : Pos} (e : stepE C R sc ρ σ (.Call f args kws pos) = some v) (h : ∀ u s', Kp s s' → RepV φ s'.heap u v → Q u s') : wpAny (model prog w) A (eval (.Call f args kws pos) env) Q E s := by
  refine ok e (fun e => gk e fun hk e => bk e fun x ex e' => ?_) fun e => bk e fun z ez e' => ?_
  · rw [List.isEmpty_iff.mp hk]
    obtain ⟨p, rfl⟩ := isName ex
    exact se_CallName B CO hR hA e' O VE h
  · rw [isAttr ez]
    exact se_CallMeth PR hm CO hR hA e' O VE h
theorem se_attr (CO : CtxOk prog w hb mg C m) (hR : SE prog w hb R m) (hA : AOk A m) (O : StoOk hb φ σ s.heap) (VE : EnvOk env sc φ ρ s.heap) {o : Expr} {a : Str} {pos : Pos} (e : stepE C R sc ρ σ (.Attribute o a pos) = some v) (h : ∀ u s', Kp s s' → RepV φ s'.heap u v → Q u s') : wpAny (model prog w) A (eval (.Attribute o a pos) env) Q E s := by
  refine gk e fun hs e => bk e fun v0 eo e => mk' e fun i ei e => ?_
  rw [show a = ("_headers" : Str) from eq_of_beq (an hs).2, arm_eval_Attribute]
  refine wpAny_bind (attributeBase_my (an hs).1 (hR sc ρ σ o _ eo A φ env s _ E hA O VE fun u s₁ k₁ r₁ => wpAny_bind (wpAny_standAt ?_)))
  cases rHdr r₁ ei with
  | mk a b q z => exact CO.attrH A φ σ _ i s₁ o Q E hA (O.kp k₁) (.hdr q z) fun u s' k r => hq h e u s' (k₁.trans k) r
end
theorem se_step (B : Base hb mg mb) (PR : Prims prog w hb) (CO : CtxOk prog w hb mg C m) (hm : 10 ≤ m) (hN : NoSet R) (hR : SE prog w hb R m) (hT : ST prog w hb R m) : SE prog w hb ⟨stepE C R, stepT C R⟩ m := by
  intro sc ρ σ e v he A φ env s Q E hA O VE h
  replace he : stepE C R sc ρ σ e = some v := he
  cases e with
  | Constant c k pos => exact se_Constant he h
  | Name x pos => exact se_Name B CO he O VE h
  | BoolOp op vs pos =>
    rw [arm_eval_BoolOp]
    cases op with
    | And => exact bool_run PR hR hA true he O VE h
    | Or => exact bool_run PR hR hA false he O VE h
  | BinOp l op r pos => exact se_bin PR hR hA O VE he h
  | UnaryOp op x pos => exact se_un PR hR hA O VE he h
  | IfExp t b o pos => exact se_if hR hT hA O VE he h
  | Compare l ops rs pos => exact se_cmp CO hm hN hR hA O VE he h
  | Call f args kws pos => exact se_call B PR CO hm hR hA O VE he h
  | Attribute o a pos => exact se_attr CO hR hA O VE he h
  | Subscript x i pos => exact se_sub CO hR hA O VE he h
  | List es pos => exact gk he fun hl he => bk he fun vs ev he => mk' he fun ds ep he => se_list PR hR hA O VE ev ep (of_decide_eq_true hl) (hq h he)
  | Tuple es k pos => exact gk he fun hl he => bk he fun vs ev he => mk' he fun ds ep he => se_tuple PR hR hA O VE ev ep (of_decide_eq_true hl) (hq h he)
  | ListComp elt gens scope pos =>
    refine compV_k he fun target iter ifs v0 l ds eg ei el hc hs hl ed ev => ?_
    subst eg
    exact se_listcomp PR hN hR hT hA O VE ei el hc hs hl ed fun a vs s' k ha hp r => hq h ev _ s' k (.p (.list (fun m => no_get (O.low a m).choose_spec ha) hp.isList r))
  | _ => exact nn he
theorem all_run (hT : ST prog w hb R m) {sc : Sc} {ρ : Rho} {σ : Sto} {A : Around} {φ : Ap} {env : Env} {Q : Bool → Shared → Prop} {E : Value → Shared → Prop} (hA : AOk A m) (isAnd : Bool) {vs : List Expr} : ∀ {v : Bool} {s : Shared}, allT (R.t sc ρ σ) isAnd vs = some v → StoOk hb φ σ s.heap → EnvOk env sc φ ρ s.heap →
    (∀ s', Kp s s' → Q v s') → wpAny (model prog w) A (allTrue (if isAnd then .And else .Or) vs env) Q E s := by
  induction vs with
  | nil =>
    intro v s e O VE h
    have h := Option.some.inj e ▸ h s (Kp.refl s)
    cases isAnd
    · exact wpAny_allTrue_Or_nil h
    · exact wpAny_allTrue_And_nil h
  | cons x r ih =>
    intro v s e O VE h
    refine bk e fun b eb e => ?_
    have step : ∀ {K : Bool → Shared → Prop}, (∀ s₁, Kp s s₁ → K b s₁) → wpAny (model prog w) A (isTrue x env (eval x env)) K E s := fun hk => hT sc ρ σ x b eb A φ env s _ E hA O VE hk
    cases b <;> cases isAnd
    · exact wpAny_allTrue_Or_cons (step fun s₁ k₁ => ih e (O.kp k₁) (VE.kp k₁) fun s' k => h s' (k₁.trans k))
    · exact wpAny_allTrue_And_cons (step fun s₁ k₁ => (show Q false s₁ from (Option.some.inj e ▸ h : ∀ s', Kp s s' → Q false s') s₁ k₁))
    · exact wpAny_allTrue_Or_cons (step fun s₁ k₁ => (show Q true s₁ from (Option.some.inj e ▸ h : ∀ s', Kp s s' → Q true s') s₁ k₁))
    · exact wpAny_allTrue_And_cons (step fun s₁ k₁ => ih e (O.kp k₁) (VE.kp k₁) fun s' k => h s' (k₁.trans k))
theorem st_other (PR : Prims prog w hb) (hR : SE prog w hb R m) {sc : Sc} {ρ : Rho} {σ : Sto} {A : Around} {φ : Ap} {env : Env} {s : Shared} {Q : Bool → Shared → Prop} {E : Value → Shared → Prop} {e : Expr} {v : Bool} (hA : AOk A m) (O : StoOk hb φ σ s.heap) (VE : EnvOk env sc φ ρ s.heap) (h : ∀ s', Kp s s' → Q v s')
    (hi : isTrue e env (eval e env) = (do let v ← eval e env; standAt e.pos; holding [v] (truthy v))) (he : (R.e sc ρ σ e).bind (truth σ) = some v) : wpAny (model prog w) A (isTrue e env (eval e env)) Q E s :=
  bk he fun v0 e0 eb => isTrue_plain (hR sc ρ σ e v0 e0 A φ env s _ E hA O VE fun u s₁ k₁ r₁ => op_truth PR (O.kp k₁) eb r₁ fun s₂ k₂ => h s₂ (k₁.trans k₂)) hi
theorem st_step (B : Base hb mg mb) (PR : Prims prog w hb) (CO : CtxOk prog w hb mg C m) (hm : 10 ≤ m) (hN : NoSet R) (hR : SE prog w hb R m) (hT : ST prog w hb R m) : ST prog w hb ⟨stepE C R, stepT C R⟩ m := by
  intro sc ρ σ e v he A φ env s Q E hA O VE h
  replace he : stepT C R sc ρ σ e = some v := he
  cases e with
  | UnaryOp op x pos =>
    cases op with
    | Not => exact mk' he fun b eb he => isTrue_not (hT sc ρ σ x b eb A φ env s _ E hA O VE fun s' k => he ▸ h s' k)
    | _ => exact st_other PR hR hA O VE h rfl he
  | BoolOp op vs pos =>
    rw [arm_isTrue_BoolOp]
    cases op with
    | And => exact all_run hT hA true he O VE h
    | Or => exact all_run hT hA false he O VE h
  | IfExp t b o pos =>
    refine bk he fun c et he => isTrue_IfExp (hT sc ρ σ t c et A φ env s _ E hA O VE fun s₁ k₁ => ?_)
    cases c with
    | true => exact hT sc ρ σ b v he A φ env s₁ _ E hA (O.kp k₁) (VE.kp k₁) fun s' k => h s' (k₁.trans k)
    | false => exact hT sc ρ σ o v he A φ env s₁ _ E hA (O.kp k₁) (VE.kp k₁) fun s' k => h s' (k₁.trans k)
  | Compare l ops rs pos =>
    refine bk he fun op eo he => bk he fun r er he => ?_
    rw [one_some eo, one_some er]
    exact bk he fun x ex he => bk he fun y ey he => wpAny_isTrue_Compare1 (hR sc ρ σ l x ex A φ env s _ E hA O VE fun u s₁ k₁ r₁ => hR sc ρ σ r y ey A φ env s₁ _ E hA (O.kp k₁) (VE.kp k₁) fun u' s₂ k₂ r₂ =>
      op_cmp CO hm (O.kp (k₁.trans k₂)) hA he (r₁.keep (k₂.kb _)) r₂ fun s' k => wpAny_truthy_bool (h s' ((k₁.trans k₂).trans k))) (mark_free hN ey op)
  | _ => exact st_other PR hR hA O VE h rfl he
theorem ev_ok (B : Base hb mg mb) (PR : Prims prog w hb) (CO : CtxOk prog w hb mg C m) (hm : 10 ≤ m) : ∀ n, SE prog w hb (ev C n) m ∧ ST prog w hb (ev C n) m
  | 0 => ⟨fun _ _ _ _ _ h => nn h, fun _ _ _ _ _ h => nn h⟩
  | n + 1 => by
    obtain ⟨a, b⟩ := ev_ok B PR CO hm n
    exact ⟨se_step B PR CO hm (noSet_ev C n) a b, st_step B PR CO hm (noSet_ev C n) a b⟩
end
-- S16
theorem size_mem {d : D} {l : List D} (m : d ∈ l) : sizeOf d < sizeOf l := List.sizeOf_lt_of_mem m
theorem RepA.noself {φ : List Addr} {h : Heap} {a : Addr} {vs : List Value} {ds : List D} (n : a ∉ φ) (x : h.IsList a vs.toArray) (r : RepA φ h vs ds) : RepA (a :: φ) h vs ds :=
  r.turnP (fun d => sizeOf d < sizeOf (D.list ds)) (fun l p d m => Nat.lt_trans (Nat.lt_trans (size_mem m) (by rw [D.tuple.sizeOf_spec]; omega)) p) (fun l p d m => Nat.lt_trans (Nat.lt_trans (size_mem m) (by rw [D.list.sizeOf_spec]; omega)) p)
    (fun a' o d p y ny e => ⟨fun m => by
      rcases List.mem_cons.mp m with e | m
      · subst e
        exact Nat.lt_irrefl _ ((RepD.list n x r).one y ▸ p)
      · exact ny m, e⟩) fun d m => Nat.lt_trans (size_mem m) (by rw [D.list.sizeOf_spec]; omega)
theorem Ap.sub {φ ψ : Ap} (hi : ψ.ix = φ.ix) (hp : ∀ a ∈ ψ.pr, a ∈ φ.pr) : ∀ a ∈ ψ.all, a ∈ φ.all := fun a m => by
  rcases List.mem_append.mp m with m | m
  · exact List.mem_append_left _ (hi ▸ m)
  · exact List.mem_append_right _ (hp a m)
theorem RepV.fewer {φ ψ : Ap} {h : Heap} (hi : ψ.ix = φ.ix) (hp : ∀ a ∈ ψ.pr, a ∈ φ.pr) {v : Value} {d : V} (x : RepV φ h v d) : RepV ψ h v d := x.turn hi (.fewer (Ap.sub hi hp))
theorem StoOk.fewer {hb : Heap} {φ ψ : Ap} {σ : Sto} {h : Heap} (hi : ψ.ix = φ.ix) (hp : ∀ a ∈ ψ.pr, a ∈ φ.pr) (O : StoOk hb φ σ h) : StoOk hb ψ σ h := by
  have hs := Ap.sub hi hp
  refine ⟨O.base, fun a m => O.high a (hs a m), fun a m => O.low a (hs a m), hi ▸ O.nd, fun a m m' => O.disj a (hi ▸ m) (hp a m'), hi ▸ O.len, fun i l e => ?_⟩
  obtain ⟨a, vs, e1, e2, e3⟩ := O.sto i l e
  exact ⟨a, vs, hi ▸ e1, e2, e3.fewer hs⟩
theorem EnvOk.fewer {env : Env} {sc : Sc} {φ ψ : Ap} {ρ : Rho} {h : Heap} (hi : ψ.ix = φ.ix) (hp : ∀ a ∈ ψ.pr, a ∈ φ.pr) (VE : EnvOk env sc φ ρ h) : EnvOk env sc ψ ρ h :=
  ⟨VE.kind, VE.glob, VE.blt, VE.sc, fun n v e d => let ⟨u, a, b⟩ := VE.vars n v e d; ⟨u, a, b.fewer hi hp⟩⟩
theorem EnvOk.grow {env : Env} {sc : Sc} {φ ψ : Ap} {ρ : Rho} {s s' : Shared} (VE : EnvOk env sc φ ρ s.heap) (k : Kp s s') (hi : ψ.ix = φ.ix) (hs : ∀ a ∈ ψ.pr, a ∈ φ.pr ∨ s.heap.get? a = none) : EnvOk env sc ψ ρ s'.heap :=
  ⟨VE.kind, VE.glob, VE.blt, VE.sc, fun n v e d => let ⟨u, a, b⟩ := VE.vars n v e d
    ⟨u, a.keep k.all, (b.more hi (fun x m => by
      rcases List.mem_append.mp m with m | m
      · exact .inl (List.mem_append_left _ (hi ▸ m))
      · exact (hs x m).imp (fun m => List.mem_append_right _ m) id)).keep (k.kb _)⟩⟩
structure FnFr (env : Env) (φ : Ap) (κ : List Addr) : Prop where
  pr : ∀ a ∈ κ, a ∈ φ.pr
  loc : env.locals ∈ κ
  cl : ∀ x c, env.cells.lookup x = some c → c ∈ κ
theorem EnvOk.keepKb {env : Env} {sc : Sc} {φ : Ap} {κ : List Addr} {ρ : Rho} {h h' : Heap} (VE : EnvOk env sc φ ρ h) (hF : FnFr env φ κ) (kκ : ∀ a o, a ∈ κ → h.get? a = some o → h'.get? a = some o) (kb : Kb φ.all h h') : EnvOk env sc φ ρ h' :=
  ⟨VE.kind, VE.glob, VE.blt, VE.sc, fun n v e d => by
    obtain ⟨u, a, b⟩ := VE.vars n v e d
    refine ⟨u, ?_, b.keep kb⟩
    rcases a with ⟨a, m, q, r⟩ | ⟨a, q, c, l, ⟨o, eo, eo'⟩⟩
    · exact .inl ⟨a, m, q.at' fun o e => kκ _ o hF.loc e, r⟩
    · exact .inr ⟨a, q, c, l, ⟨o, kκ c o (hF.cl n c l) eo, eo'⟩⟩⟩
theorem FrOk.keepκ {env : Env} {sc : Sc} {κ : List Addr} {h h' : Heap} (x : FrOk env sc κ h) (kκ : ∀ a o, a ∈ κ → h.get? a = some o → h'.get? a = some o) : FrOk env sc κ h' := by
  refine ⟨?_, x.loc, fun y hy => ?_⟩
  · obtain ⟨m, n⟩ := x.ns
    exact ⟨m, n.at' fun o e => kκ _ o x.loc e⟩
  · obtain ⟨c, e1, e2, ⟨ov, ⟨o, e3, e4⟩⟩, e5⟩ := x.cell y hy
    exact ⟨c, e1, e2, ⟨ov, ⟨o, kκ c o e2 e3, e4⟩⟩, e5⟩
structure Step (κ : List Addr) (b : Nat) (φ : Ap) (s : Shared) (φ' : Ap) (s' : Shared) : Prop where
  pr : φ'.pr = φ.pr
  ix : ∃ new, φ'.ix = φ.ix ++ new ∧ ∀ a ∈ new, s.heap.get? a = none
  sh : ∃ h' tk, s' = { s with heap := h', toks := tk }
  keep : ∀ a o, a ∉ κ → a ∉ φ.ix.drop b → s.heap.get? a = some o → s'.heap.get? a = some o
theorem Step.refl (κ : List Addr) (b : Nat) (φ : Ap) (s : Shared) : Step κ b φ s φ s := ⟨rfl, ⟨[], by simp, fun _ h => by cases h⟩, ⟨s.heap, s.toks, rfl⟩, fun _ _ _ _ e => e⟩
theorem Kp.step {κ : List Addr} {b : Nat} {φ : Ap} {s s' : Shared} (k : Kp s s') : Step κ b φ s φ s' := by
  obtain ⟨h, t, rfl, k⟩ := k
  exact ⟨rfl, ⟨[], by simp, fun _ h => by cases h⟩, ⟨_, _, rfl⟩, fun a o _ _ e => k a o e⟩
theorem Pk.step {κ : List Addr} {b : Nat} {φ : Ap} {s s' : Shared} (k : Pk κ s s') : Step κ b φ s φ s' := by
  obtain ⟨h, t, rfl, k⟩ := k
  exact ⟨rfl, ⟨[], by simp, fun _ h => by cases h⟩, ⟨_, _, rfl⟩, fun a o ha _ e => k a o ha e⟩
theorem Step.trans {κ : List Addr} {b : Nat} {φ φ' φ'' : Ap} {s s' s'' : Shared} (O : ∀ a ∈ κ, ∃ o, s'.heap.get? a = some o) (hd : ∀ a ∈ φ.ix, ∃ o, s'.heap.get? a = some o) (x : Step κ b φ s φ' s') (y : Step κ b φ' s' φ'' s'') : Step κ b φ s φ'' s'' := by
  obtain ⟨n1, e1, f1⟩ := x.ix
  obtain ⟨n2, e2, f2⟩ := y.ix
  refine ⟨y.pr.trans x.pr, ⟨n1 ++ n2, by rw [e2, e1, List.append_assoc], fun a m => ?_⟩, ?_, fun a o ha hb e => ?_⟩
  · rcases List.mem_append.mp m with m | m
    · exact f1 a m
    · cases e : s.heap.get? a with
      | none => rfl
      | some o =>
        have hn := f2 a m
        by_cases hk : a ∈ κ
        · obtain ⟨o', eo⟩ := O a hk; rw [hn] at eo; cases eo
        · by_cases hx : a ∈ φ.ix.drop b
          · obtain ⟨o', eo⟩ := hd a (List.mem_of_mem_drop hx); rw [hn] at eo; cases eo
          · have := x.keep a o hk hx e
            rw [hn] at this; cases this
  · obtain ⟨h, t, rfl⟩ := x.sh
    obtain ⟨h', t', rfl⟩ := y.sh
    exact ⟨h', t', rfl⟩
  · refine y.keep a o ha (fun m => ?_) (x.keep a o ha hb e)
    rw [e1, List.drop_append] at m
    rcases List.mem_append.mp m with m | m
    · exact hb m
    · have := f1 a (List.mem_of_mem_drop m)
      rw [e] at this; cases this
theorem put_ok {hb : Heap} {φ : Ap} {σ : Sto} {s : Shared} {h' : Heap} {i : Nat} {l l' : List D} {a : Addr} {vs' : List Value} (O : StoOk hb φ σ s.heap) (_hl : σ[i]? = some l) (ha : φ.ix[i]? = some a) (hs : ∀ c o, c ≠ a → s.heap.get? c = some o → h'.get? c = some o) (hp : h'.PlainList a vs'.toArray) (r : RepA φ.all s.heap vs' l') :
    StoOk hb φ (σ.set i l') h' := by
  have haix : a ∈ φ.ix := List.mem_of_getElem? ha
  have hall : a ∈ φ.all := List.mem_append_left _ haix
  have kb : Kb φ.all s.heap h' := fun b o hb e => hs b o (fun q => hb (q ▸ hall)) e
  refine ⟨fun b o e => kb b o (fun m => by have h0 := O.high b m; rw [e] at h0; cases h0) (O.base b o e), O.high, fun b m => ?_, O.nd, O.disj, by rw [List.length_set]; exact O.len, fun j l0 e => ?_⟩
  · by_cases q : b = a
    · subst q; obtain ⟨n, e⟩ := hp; exact ⟨_, e⟩
    · obtain ⟨o, e⟩ := O.low b m
      exact ⟨o, hs b o q e⟩
  · rw [List.getElem?_set] at e
    split at e
    · rename_i q
      subst q
      split at e
      · cases e; exact ⟨a, vs', ha, hp, r.keep kb⟩
      · cases e
    · rename_i q
      obtain ⟨c, us, e1, e2, e3⟩ := O.sto j l0 e
      have hne : c ≠ a := fun z => by
        subst z
        obtain ⟨h1, g1⟩ := List.getElem?_eq_some_iff.mp ha
        obtain ⟨h2, g2⟩ := List.getElem?_eq_some_iff.mp e1
        exact q ((List.getElem_inj O.nd).mp (g1.trans g2.symm))
      exact ⟨c, us, e1, e2.at fun o e => hs c o hne e, e3.keep kb⟩
theorem new_ok {hb : Heap} {φ : Ap} {σ : Sto} {s s' : Shared} {a : Addr} {pr' : List Addr} {vs : List Value} {l : List D} (O : StoOk hb φ σ s.heap) (k : Kp s s') (hf : s.heap.get? a = none) (hp : s'.heap.PlainList a vs.toArray)
    (hs : ∀ c ∈ pr', c ∈ φ.pr ∨ s.heap.get? c = none) (he : ∀ c ∈ pr', ∃ o, s'.heap.get? c = some o) (hna' : a ∉ pr') (r : RepA (⟨φ.ix, pr'⟩ : Ap).all s'.heap vs l) :
    StoOk hb ⟨φ.ix ++ [a], pr'⟩ (σ ++ [l]) s'.heap := by
  have hna : a ∉ φ.all := fun m => by obtain ⟨o, e⟩ := O.low a m; rw [hf] at e; cases e
  have hnx : a ∉ φ.ix := fun m => hna (List.mem_append_left _ m)
  have mem : ∀ b, b ∈ (⟨φ.ix ++ [a], pr'⟩ : Ap).all ↔ b = a ∨ b ∈ φ.ix ∨ b ∈ pr' := fun b => by
    simp only [Ap.all, List.mem_append, List.mem_singleton]
    constructor
    · rintro ((h | h) | h)
      · exact .inr (.inl h)
      · exact .inl h
      · exact .inr (.inr h)
    · rintro (h | h | h)
      · exact .inl (.inr h)
      · exact .inl (.inl h)
      · exact .inr h
  have O' := O.kp k
  have moreA : ∀ x ∈ (⟨φ.ix ++ [a], pr'⟩ : Ap).all, x ∈ φ.all ∨ s.heap.get? x = none := fun x m => by
    rcases (mem x).mp m with q | q | q
    · exact .inr (q ▸ hf)
    · exact .inl (List.mem_append_left _ q)
    · exact (hs x q).imp (fun z => List.mem_append_right _ z) id
  refine ⟨O'.base, fun b m => ?_, fun b m => ?_, ?_, fun b m m' => ?_, by simp [O.len], fun i l0 e => ?_⟩
  · rcases moreA b m with q | q
    · exact O.high b q
    · cases e : hb.get? b with
      | none => rfl
      | some o => rw [O.base b o e] at q; cases q
  · rcases (mem b).mp m with q | q | q
    · subst q; obtain ⟨n, e⟩ := hp; exact ⟨_, e⟩
    · exact O'.low b (List.mem_append_left _ q)
    · exact he b q
  · rw [List.nodup_append]
    refine ⟨O.nd, by simp, fun x hx y hy q => ?_⟩
    rw [List.mem_singleton] at hy
    subst hy; subst q
    exact hnx hx
  · rcases List.mem_append.mp m with m | m
    · rcases hs b m' with q | q
      · exact O.disj b m q
      · obtain ⟨o, e⟩ := O.low b (List.mem_append_left _ m); rw [q] at e; cases e
    · rw [List.mem_singleton] at m; subst m; exact hna' m'
  · by_cases hi : i < σ.length
    · rw [List.getElem?_append_left hi] at e
      obtain ⟨c, us, e1, e2, e3⟩ := O.sto i l0 e
      refine ⟨c, us, ?_, e2.at fun o e => k.all _ o e, (e3.more moreA).keep (k.kb _)⟩
      show (φ.ix ++ [a])[i]? = some c
      rw [List.getElem?_append_left (by rw [O.len]; exact hi)]; exact e1
    · rw [List.getElem?_append_right (by omega)] at e
      have hi' : i - σ.length = 0 := by
        cases q : i - σ.length with
        | zero => rfl
        | succ n => rw [q] at e; simp at e
      rw [hi'] at e
      cases e
      refine ⟨a, vs, ?_, hp, ?_⟩
      · show (φ.ix ++ [a])[i]? = some a
        rw [List.getElem?_append_right (by rw [O.len]; omega), O.len, hi']; rfl
      · have hna2 : a ∉ (⟨φ.ix, pr'⟩ : Ap).all := fun m => (List.mem_append.mp m).elim hnx hna'
        have := RepA.noself hna2 hp.isList r
        exact this.fewer fun x m => by
          rcases (mem x).mp m with q | q | q
          · exact q ▸ List.mem_cons_self
          · exact List.mem_cons_of_mem _ (List.mem_append_left _ q)
          · exact List.mem_cons_of_mem _ (List.mem_append_right _ q)
theorem RepV.newix {φ : Ap} {h : Heap} {a : Addr} {pr' : List Addr} {u : Value} {v : V} (hf : h.get? a = none) (hs : ∀ c ∈ pr', c ∈ φ.pr ∨ h.get? c = none) (y : RepV φ h u v) : RepV ⟨φ.ix ++ [a], pr'⟩ h u v := by
  have moreA : ∀ x ∈ (⟨φ.ix ++ [a], pr'⟩ : Ap).all, x ∈ φ.all ∨ h.get? x = none := fun x m => by
    rcases List.mem_append.mp m with m | m
    · rcases List.mem_append.mp m with m | m
      · exact .inl (List.mem_append_left _ m)
      · rw [List.mem_singleton] at m; exact .inr (m ▸ hf)
    · exact (hs x m).imp (fun z => List.mem_append_right _ z) id
  have ixm : ∀ {i : Nat} {c : Addr}, φ.ix[i]? = some c → (⟨φ.ix ++ [a], pr'⟩ : Ap).ix[i]? = some c := fun {i c} e => by
    show (φ.ix ++ [a])[i]? = _
    rw [List.getElem?_append_left (List.getElem?_eq_some_iff.mp e).1]; exact e
  exact y.turn' ixm (.more moreA)
theorem new_env {env : Env} {sc : Sc} {φ : Ap} {ρ : Rho} {s s' : Shared} {a : Addr} {pr' : List Addr} (VE : EnvOk env sc φ ρ s.heap) (k : Kp s s') (hf : s.heap.get? a = none) (hs : ∀ c ∈ pr', c ∈ φ.pr ∨ s.heap.get? c = none) : EnvOk env sc ⟨φ.ix ++ [a], pr'⟩ ρ s'.heap :=
  ⟨VE.kind, VE.glob, VE.blt, VE.sc, fun n v e d => by
    obtain ⟨u, x, y⟩ := VE.vars n v e d
    refine ⟨u, x.keep k.all, ?_⟩
    have kb := k.kb (⟨φ.ix ++ [a], pr'⟩ : Ap).all
    exact (y.newix hf hs).keep kb⟩
theorem drop1 {hb : Heap} {ix pr κ : List Addr} {c : Addr} {σ : Sto} {s : Shared} {h' : Heap} {env : Env} {sc : Sc} {ρ : Rho} (O : StoOk hb ⟨ix, c :: pr⟩ σ s.heap) (VE : EnvOk env sc ⟨ix, c :: pr⟩ ρ s.heap) (F : FrOk env sc κ s.heap) (hF : FnFr env ⟨ix, pr⟩ κ)
    (hc : c ∉ κ) (hcp : c ∉ pr) (hs : ∀ b o, b ≠ c → s.heap.get? b = some o → h'.get? b = some o) : StoOk hb ⟨ix, pr⟩ σ h' ∧ EnvOk env sc ⟨ix, pr⟩ ρ h' ∧ FrOk env sc κ h' := by
  have hp : ∀ a ∈ (⟨ix, pr⟩ : Ap).pr, a ∈ (⟨ix, c :: pr⟩ : Ap).pr := fun a m => List.mem_cons_of_mem _ m
  have hci : c ∉ ix := fun m => O.disj c m List.mem_cons_self
  have hca : c ∈ (⟨ix, c :: pr⟩ : Ap).all := List.mem_append_right _ List.mem_cons_self
  have sub : ∀ a, a ∈ (⟨ix, pr⟩ : Ap).all → a ∈ (⟨ix, c :: pr⟩ : Ap).all := Ap.sub rfl hp
  have kk : ∀ b o, b ≠ c → s.heap.get? b = some o → h'.get? b = some o := hs
  have kb : Kb (⟨ix, c :: pr⟩ : Ap).all s.heap h' := fun b o hb e => kk b o (fun q => hb (q ▸ hca)) e
  have ne : ∀ a, a ∈ (⟨ix, pr⟩ : Ap).all → a ≠ c := fun a m q => by
    subst q
    exact (List.mem_append.mp m).elim hci hcp
  have kκ : ∀ a o, a ∈ κ → s.heap.get? a = some o → h'.get? a = some o := fun a o m e => kk a o (fun q => hc (q ▸ m)) e
  refine ⟨⟨fun b o e => kk b o (fun q => by have := O.high c hca; rw [← q, e] at this; cases this) (O.base b o e), fun a m => O.high a (sub a m), fun a m => ?_, O.nd, fun a m m' => O.disj a m (hp a m'), O.len, fun i l e => ?_⟩, ?_, F.keepκ kκ⟩
  · obtain ⟨o, e⟩ := O.low a (sub a m)
    exact ⟨o, kk a o (ne a m) e⟩
  · obtain ⟨a, vs, e1, e2, e3⟩ := O.sto i l e
    exact ⟨a, vs, e1, e2.at fun o e => kk _ o (ne a (List.mem_append_left _ (List.mem_of_getElem? e1))) e, (e3.keep kb).fewer sub⟩
  · exact (VE.keepKb (κ := κ) ⟨fun a m => hp a (hF.pr a m), hF.loc, hF.cl⟩ kκ kb).fewer (φ := ⟨ix, c :: pr⟩) rfl hp
-- S17
section
variable (prog : Program) (w : World) (hb : Heap)
noncomputable def SF (R : Rec) (m : Nat) : Prop := ∀ sc ρ σ e l, R.e sc ρ σ e = some (.p (.list l)) → isFresh e = true → ∀ A φ env s (Q : Value → Shared → Prop) (E : Value → Shared → Prop), AOk A m → StoOk hb φ σ s.heap → EnvOk env sc φ ρ s.heap →
  (∀ a vs s', Kp s s' → s.heap.get? a = none → s'.heap.PlainList a (List.toArray vs) → RepA φ.all s'.heap vs l → Q (.ref a) s') → wpAny (model prog w) A (eval e env) Q E s
noncomputable def SU (R : Rec) (m : Nat) : Prop := ∀ sc ρ σ elt gens scope pos v, R.e sc ρ σ (.ListComp elt gens scope pos) = some v → ∀ A φ env s (use : Value → Sem Unit) (Q : Unit → Shared → Prop) (E : Value → Shared → Prop), AOk A m → StoOk hb φ σ s.heap → EnvOk env sc φ ρ s.heap →
  (∀ D Cc s' vs l, v = .p (.list l) → Kp s s' → s.heap.get? D = none → s.heap.get? Cc = none → D ≠ Cc → (∃ m, s'.heap.Ns Cc m) → s'.heap.PlainList D (List.toArray vs) → RepA (Cc :: φ.all) s'.heap vs l →
    wpAny (model prog w) A (use (.ref D)) (fun _ s'' => ∃ m, s''.heap.Ns Cc m ∧ ∀ h', Heap.SameBut Cc s''.heap h' → Q () { s'' with heap := h' }) E s') →
  wpAny (model prog w) A (evalThenUse (.ListComp elt gens scope pos) env use) Q E s
structure RecOk (R : Rec) (m : Nat) : Prop where
  e : SE prog w hb R m
  t : ST prog w hb R m
  f : SF prog w hb R m
  u : SU prog w hb R m
  s : NoSet R
  sc : ∀ sc ρ σ a b c d, R.e sc ρ σ (.SetComp a b c d) = none
  dc : ∀ sc ρ σ a b c d x, R.e sc ρ σ (.DictComp a b c d x) = none
  st : ∀ sc ρ σ a p, R.e sc ρ σ (.Starred a p) = none
end
section
variable {prog : Program} {w : World} {hb : Heap} {mg mb : Str → Option Value} {C : Ctx} {R : Rec} {m : Nat}
theorem su_step (PR : Prims prog w hb) (hN : NoSet R) (hR : SE prog w hb R m) (hT : ST prog w hb R m) : SU prog w hb ⟨stepE C R, stepT C R⟩ m := by
  intro sc ρ σ elt gens scope pos v he A φ env s use Q E hA O VE h
  replace he : stepE C R sc ρ σ (.ListComp elt gens scope pos) = some v := he
  refine compV_k he fun target iter ifs v0 l ds eg ei el hc hs hl ed ev => ?_
  subst eg ev
  show wpAny _ _ (comprehension _ _ _ _ _ _ _ (some use) >>= fun _ => pure ()) _ _ _
  refine wpAny_bind (se_comp (Q := fun _ s'' => wpAny (model prog w) A (pure ()) Q E s'') PR hN hR hT hA O VE ei el hc hs hl ed fun D Cc s' vs k hD hC hne hns hpl hrep => ?_)
  refine wpAny_mono (h D Cc s' vs ds rfl k hD hC hne hns hpl hrep) (fun _ s'' hh => ?_) fun _ _ x => x
  obtain ⟨m', hm', hq⟩ := hh
  exact ⟨m', hm', fun h' sb => wpAny_pure (hq h' sb)⟩
theorem sf_slice {sc : Sc} {ρ : Rho} {σ : Sto} {A : Around} {φ : Ap} {env : Env} {s : Shared} {Q : Value → Shared → Prop} {E : Value → Shared → Prop} {l : List D} {x i : Expr} {pos : Pos} (hR : SE prog w hb R m) (hA : AOk A m) (O : StoOk hb φ σ s.heap) (VE : EnvOk env sc φ ρ s.heap) (hi : (slice? i).isSome = true) (e : stepE C R sc ρ σ (.Subscript x i pos) = some (.p (.list l)))
    (h : ∀ a vs s', Kp s s' → s.heap.get? a = none → s'.heap.PlainList a (List.toArray vs) → RepA φ.all s'.heap vs l → Q (.ref a) s') : wpAny (model prog w) A (eval (.Subscript x i pos) env) Q E s := by
  refine ok e (fun e => bk e fun z hz e' => ?_) fun e => gk e fun hn _ => some_k hi fun z hz => by rw [hz] at hn; exact nf hn
  obtain ⟨p, rfl⟩ := isSlice hz
  refine bk e' fun v0 ex e => bk e fun a ea e => bk e fun b eb e => bk e fun c ec e => bk e fun a' pa e => bk e fun b' pb e => bk e fun c' pc e => slice_open hR hA O VE ex ea eb ec pa pb pc fun u s' vl vu vs sl k r hs p1 p2 p3 => ?_
  have hl : ∀ {z : V}, some z = some (V.p (.list l)) → z = .p (.list l) := Option.some.inj
  refine ok e (fun e => bk e fun b eb e => gk e fun hc e => nomatch hl e) fun e => ok e (fun e => bk e fun b eb e => gk e fun hc e => nomatch hl e) fun e => bk e fun l0 el e => gk e fun hc e => ?_
  cases lst_rep (O.kp k) r el with
  | mk a us hx ra =>
    have hq : pick l0 a' b' c' = l := D.list.inj (V.p.inj (hl e))
    exact slice_l hx ra (bne_iff_ne.mp (an hc).1) hs p1 p2 p3 (of_decide_eq_true (an hc).2) fun r' => h _ (pick us a' b' c') _ (k.trans (Kp.push' _ _)) (k.none (get_size _)) ⟨0, Heap.get?_push_size _ rfl⟩ (hq ▸ RepA.keep ((Kp.push' _ _).kb _) r')
theorem sf_step (PR : Prims prog w hb) (hN : NoSet R) (hR : SE prog w hb R m) (hT : ST prog w hb R m) : SF prog w hb ⟨stepE C R, stepT C R⟩ m := by
  intro sc ρ σ e l he hf A φ env s Q E hA O VE h
  replace he : stepE C R sc ρ σ e = some (.p (.list l)) := he
  cases e with
  | List es pos =>
    refine gk he fun hl he => bk he fun vs ev he => mk' he fun ds ep e1 => wpAny_List (evs_run hR hA ev O VE fun us s₁ k₁ r₁ => ⟨?_, ?_⟩)
    · rw [sizeLine_eq, r₁.length, evs_length ev]; exact Nat.le_trans (of_decide_eq_true hl) (by decide)
    · exact h _ us _ (k₁.trans (Kp.push' _ _)) (k₁.none (get_size _)) ⟨0, Heap.get?_push_size _ rfl⟩ ((D.list.inj (V.p.inj e1) ▸ r₁.pures ep).keep ((Kp.push' _ _).kb _))
  | ListComp elt gens scope pos =>
    refine compV_k he fun target iter ifs v0 l ds eg ei el hc hs hl ed ev => ?_
    subst eg
    exact se_listcomp PR hN hR hT hA O VE ei el hc hs hl (D.list.inj (V.p.inj ev) ▸ ed) h
  | Subscript x i pos => exact sf_slice hR hA O VE hf he h
  | _ => exact nf hf
theorem rec_ok (B : Base hb mg mb) (PR : Prims prog w hb) (CO : CtxOk prog w hb mg C m) (hm : 10 ≤ m) (n : Nat) : RecOk prog w hb (ev C (n + 1)) m := by
  obtain ⟨a, b⟩ := ev_ok B PR CO hm n
  obtain ⟨a', b'⟩ := ev_ok B PR CO hm (n + 1)
  exact ⟨a', b', sf_step PR (noSet_ev C n) a b, su_step PR (noSet_ev C n) a b, noSet_ev C (n + 1), fun _ _ _ _ _ _ _ => rfl, fun _ _ _ _ _ _ _ _ => rfl, fun _ _ _ _ _ => rfl⟩
end
end
section
open PySem PySem.Calls PyProof.Rows PySem.W PySem.SeqAt
set_option autoImplicit false
set_option backward.match.sparseCases false
-- S18
structure At (hb : Heap) (env : Env) (sc : Sc) (φ : Ap) (κ : List Addr) (ρ : Rho) (σ : Sto) (s : Shared) : Prop where
  O : StoOk hb φ σ s.heap
  V : EnvOk env sc φ ρ s.heap
  F : FrOk env sc κ s.heap
  frS : FnFr env φ κ
noncomputable def FlR (φ : Ap) (z : Nat) (h : Heap) (f : Flow) : Fl → Prop
  | .next => f = .next
  | .brk => f = .brk
  | .ret v => ∃ u, f = .ret u ∧ RepV ⟨φ.ix.take z, φ.pr⟩ h u v
section
variable {prog : Program} {w : World} {hb : Heap} {mg mb : Str → Option Value} {C : Ctx} {R : Rec} {m b z : Nat} {sc : Sc} {ρ : Rho} {σ : Sto} {A : Around} {φ : Ap} {κ : List Addr} {env : Env} {s : Shared} {E : Value → Shared → Prop}
theorem At.kp (x : At hb env sc φ κ ρ σ s) {s' : Shared} (k : Kp s s') : At hb env sc φ κ ρ σ s' := ⟨x.O.kp k, x.V.kp k, x.F.kp k, x.frS⟩
theorem FnFr.pr_eq {φ' : Ap} (x : FnFr env φ κ) (e : φ'.pr = φ.pr) : FnFr env φ' κ := ⟨fun a m => e ▸ x.pr a m, x.loc, x.cl⟩
theorem Step.tr {φ' φ'' : Ap} {ρ' : Rho} {σ' : Sto} {s' s'' : Shared} (x : Step κ b φ s φ' s') (X : At hb env sc φ' κ ρ' σ' s') (y : Step κ b φ' s' φ'' s'') : Step κ b φ s φ'' s'' := by
  refine Step.trans (fun a m => X.O.low a (List.mem_append_right _ (X.frS.pr a m))) (fun a m => X.O.low a (List.mem_append_left _ ?_)) x y
  obtain ⟨new, e, _⟩ := x.ix
  rw [e]; exact List.mem_append_left _ m
theorem At.len_le {φ' : Ap} {ρ' : Rho} {σ' : Sto} {s' : Shared} (X : At hb env sc φ κ ρ σ s) (x : Step κ b φ s φ' s') (Y : At hb env sc φ' κ ρ' σ' s') : σ.length ≤ σ'.length := by
  obtain ⟨new, e, _⟩ := x.ix
  rw [← X.O.len, ← Y.O.len, e, List.length_append]; omega
variable (prog w hb) in
noncomputable def SX (S : Sc → Rho → Sto → Stmt → Option (Fl × Rho × Sto)) (b z m : Nat) : Prop := ∀ sc ρ σ st fl ρ' σ', S sc ρ σ st = some (fl, ρ', σ') → ∀ A φ κ env s (Q : Flow → Shared → Prop) (E : Value → Shared → Prop), AOk A m → At hb env sc φ κ ρ σ s → z ≤ σ.length →
  (∀ f φ' s', Step κ b φ s φ' s' → At hb env sc φ' κ ρ' σ' s' → FlR φ' z s'.heap f fl → Q f s') → wpAny (model prog w) A (exec st env) Q E s
theorem kps_at (X : At hb env sc φ κ ρ σ s) {s' : Shared} {σ' : Sto} (k : KpS φ s s') (O' : StoOk hb φ σ' s'.heap) : At hb env sc φ κ ρ σ' s' := by
  have kb : Kb φ.ix s.heap s'.heap := by obtain ⟨h, t, rfl, k⟩ := k; exact k
  have kκ : ∀ a o, a ∈ κ → s.heap.get? a = some o → s'.heap.get? a = some o := fun a o m e => kb a o (fun q => X.O.disj a q (X.frS.pr a m)) e
  exact ⟨O', X.V.keepKb X.frS kκ (kb.mono fun a m => List.mem_append_left _ m), X.F.keepκ kκ, X.frS⟩
theorem kps_step {s' : Shared} (k : KpS φ s s') : Step κ 0 φ s φ s' := by
  obtain ⟨h, t, rfl, k⟩ := k
  exact ⟨rfl, ⟨[], by simp, fun _ h => by cases h⟩, ⟨_, _, rfl⟩, fun a o _ ha e => k a o (by simpa using ha) e⟩
theorem isCall {f : Expr} {z : Expr × List Expr × List Keyword × Pos} (h : call? f = some z) : f = .Call z.1 z.2.1 z.2.2.1 z.2.2.2 := by
  cases f with
  | Call a b c d => exact (Option.some.inj h) ▸ rfl
  | _ => exact nn h
inductive EffIs (C : Ctx) (b : Nat) (sc : Sc) (ρ : Rho) (g : Sto → List V → Option (V × Sto)) (args : List Expr) : Expr → Prop
  | mk (f : Str) (p q : Pos) (eg : C.eff f = some g) (hk : isGlob sc ρ f = true) (hb : b = 0) : EffIs C b sc ρ g args (.Call (.Name f p) args [] q)
theorem effIs {x : Expr} {z : (Sto → List V → Option (V × Sto)) × List Expr} (e : effOf C b sc ρ x = some z) : EffIs C b sc ρ z.1 z.2 x :=
  bk e fun c ec e => bk e fun f ef e => bk e fun g eg e => gk e fun hk e => by
    obtain ⟨p, ep⟩ := isName ef
    rw [isCall ec, ep, List.isEmpty_iff.mp (an hk).1, ← Option.some.inj e]
    exact ⟨f, p, _, eg, (an (an hk).2).1, eq_of_beq (an (an hk).2).2⟩
theorem evA_run (B : Base hb mg mb) (CO : CtxOk prog w hb mg C m) (hR : SE prog w hb R m) (hA : AOk A m) (X : At hb env sc φ κ ρ σ s) {x : Expr} {v : V} {σ' : Sto} {Q : Value → Shared → Prop} (e : evA C R b sc ρ σ x = some (v, σ'))
    (h : ∀ u s', Step κ b φ s φ s' → At hb env sc φ κ ρ σ' s' → RepV φ s'.heap u v → Q u s') : wpAny (model prog w) A (eval x env) Q E s := by
  unfold evA at e
  cases he : effOf C b sc ρ x with
  | none =>
    rw [he] at e
    refine mk' e fun v' e1 e2 => ?_
    obtain ⟨rfl, rfl⟩ := Prod.mk.inj e2
    exact hR sc ρ σ x v' e1 A φ env s _ E hA X.O X.V fun u s' k r => h u s' k.step (X.kp k) r
  | some z =>
    rw [he] at e
    cases effIs he with
    | mk f p q eg hk hb =>
      subst hb
      refine bk e fun vs ev e => ?_
      obtain ⟨fv, hg, ⟨k, hK⟩, hc⟩ := CO.eff f _ eg
      refine wpAny_Call_Name_kw (glob_load B X.O.base X.V (eq_of_beq (an (an hk).2).1) (Bool.not_eq_true' _ ▸ (an (an hk).2).2) hg ?_)
      refine callWith_my (k := k) rfl (evs_plain ev) (evs_run hR hA ev X.O X.V fun us s₁ k₁ r₁ => wpAny_evalAll_nil ⟨fun Q' hq => hK s₁ A Q' E (X.O.kp k₁).base hq, ?_⟩)
      exact hc A φ σ us vs v σ' s₁ Q E hA (X.O.kp k₁) r₁ e fun u s' k' O' r' => h u s' (Step.tr k₁.step (X.kp k₁) (kps_step k')) (kps_at (X.kp k₁) k' O') r'
noncomputable def isComp : Expr → Bool
  | .ListComp _ _ _ _ => true
  | .SetComp _ _ _ _ => true
  | .DictComp _ _ _ _ _ => true
  | _ => false
theorem swaps_c {value : Expr} {line : Nat} (h : isComp value = false) {x : Str} {q : Pos} : swapsWith value (some (.Name x q)) line env = pure false := by
  cases value <;> first | rfl | exact nf h.symm
theorem isLComp (RO : RecOk prog w hb R m) {value : Expr} {v : V} (e : R.e sc ρ σ value = some v) (h : isComp value = true) : ∃ elt gens scope p, value = .ListComp elt gens scope p := by
  cases value with
  | ListComp a b c d => exact ⟨a, b, c, d, rfl⟩
  | SetComp a b c d => rw [RO.sc] at e; exact nn e
  | DictComp a b c d x => rw [RO.dc] at e; exact nn e
  | _ => exact nf h
theorem swaps_k {P : Prop} (RO : RecOk prog w hb R m) {value : Expr} {v : V} {x : Str} {q : Pos} {line : Nat} (el : R.e sc ρ σ value = some v) (k0 : swapsWith value (some (.Name x q)) line env = pure false → P)
    (k1 : ∀ elt gens scope p, value = .ListComp elt gens scope p → swapsWith (.ListComp elt gens scope p) (some (.Name x q)) line env = pure true → P) : P := by
  cases hcv : isComp value with
  | false => exact k0 (swaps_c hcv)
  | true =>
    obtain ⟨elt, gens, scope, p, rfl⟩ := isLComp RO el hcv
    have : ∃ c, swapsWith (.ListComp elt gens scope p) (some (.Name x q)) line env = pure c := ⟨_, rfl⟩
    obtain ⟨c, hsw⟩ := this
    cases c with
    | false => exact k0 hsw
    | true => exact k1 _ _ _ _ rfl hsw
theorem evA_comp {value : Expr} (h : isComp value = true) : evA C R b sc ρ σ value = (R.e sc ρ σ value).map fun v => (v, σ) := by
  cases value <;> first | rfl | exact nf h
theorem evA_k {P : Prop} (RO : RecOk prog w hb R m) {value : Expr} {y : V × Sto} {x : Str} {q : Pos} {line : Nat} (ez : evA C R b sc ρ σ value = some y) (k0 : swapsWith value (some (.Name x q)) line env = pure false → P)
    (k1 : ∀ elt gens scope p v, value = .ListComp elt gens scope p → swapsWith (.ListComp elt gens scope p) (some (.Name x q)) line env = pure true → R.e sc ρ σ value = some v → (v, σ) = y → P) : P := by
  cases hcv : isComp value with
  | false => exact k0 (swaps_c hcv)
  | true => exact mk' ((evA_comp hcv).symm.trans ez) fun v el e4 => swaps_k RO el k0 fun elt gens scope p hv hsw => k1 elt gens scope p v hv hsw el e4
theorem name_ok (X : At hb env sc φ κ ρ σ s) {x : Str} (hx : canStore sc x = true) {u : Value} {v : V} (r : RepV φ s.heap u v) {Q : Unit → Shared → Prop} (h : ∀ s', Step κ b φ s φ s' → At hb env sc φ κ (rset ρ x v) σ s' → Q () s') :
    wpAny (model prog w) A (storeName env x u) Q E s :=
  store_ok X.O X.V X.frS.pr X.F hx r fun s' pk O' V' F' => h s' pk.step ⟨O', V', F', X.frS⟩
theorem grow1 (X : At hb env sc φ κ ρ σ s) {s' : Shared} (k : Kp s s') {c : Addr} (hc : s.heap.get? c = none) (he : ∃ o, s'.heap.get? c = some o) : At hb env sc ⟨φ.ix, c :: φ.pr⟩ κ ρ σ s' := by
  have hs : ∀ a ∈ (⟨φ.ix, c :: φ.pr⟩ : Ap).pr, a ∈ φ.pr ∨ s.heap.get? a = none := fun a m => by
    rcases List.mem_cons.mp m with q | q
    · exact .inr (q ▸ hc)
    · exact .inl q
  refine ⟨X.O.grow k rfl hs fun a m => ?_, X.V.grow k rfl hs, X.F.kp k, ⟨fun a m => List.mem_cons_of_mem _ (X.frS.pr a m), X.frS.loc, X.frS.cl⟩⟩
  rcases List.mem_cons.mp m with q | q
  · exact q ▸ he
  · exact (X.O.kp k).low a (List.mem_append_right _ q)
theorem new1 (X : At hb env sc φ κ ρ σ s) {s' : Shared} (k : Kp s s') {a : Addr} {pr' : List Addr} {vs : List Value} {l : List D} (hf : s.heap.get? a = none) (hp : s'.heap.PlainList a vs.toArray) (hs : ∀ c ∈ pr', c ∈ φ.pr ∨ s.heap.get? c = none) (hsub : ∀ c ∈ φ.pr, c ∈ pr')
    (he : ∀ c ∈ pr', ∃ o, s'.heap.get? c = some o) (hna : a ∉ pr') (r : RepA (⟨φ.ix, pr'⟩ : Ap).all s'.heap vs l) : At hb env sc ⟨φ.ix ++ [a], pr'⟩ κ ρ (σ ++ [l]) s' ∧ RepV ⟨φ.ix ++ [a], pr'⟩ s'.heap (.ref a) (.own σ.length) := by
  refine ⟨⟨new_ok X.O k hf hp hs he hna r, new_env X.V k hf hs, X.F.kp k, ⟨fun c m => hsub c (X.frS.pr c m), X.frS.loc, X.frS.cl⟩⟩, .own ?_⟩
  show (φ.ix ++ [a])[σ.length]? = some a
  rw [← X.O.len]; simp
theorem drop_at {c : Addr} (X : At hb env sc ⟨φ.ix, c :: φ.pr⟩ κ ρ σ s) {h' : Heap} (hF : FnFr env φ κ) (hc : c ∉ κ) (hcp : c ∉ φ.pr) {tk : Nat} (hs : ∀ b o, b ≠ c → s.heap.get? b = some o → h'.get? b = some o) : At hb env sc φ κ ρ σ { s with heap := h', toks := tk } := by
  obtain ⟨a, b, c⟩ := drop1 X.O X.V X.F hF hc hcp hs
  exact ⟨a, b, c, hF⟩
theorem h_next {fl : Fl} {ρ' ρ1 : Rho} {σ' σ1 : Sto} {Q : Flow → Shared → Prop} (h : ∀ f φ' s', Step κ b φ s φ' s' → At hb env sc φ' κ ρ' σ' s' → FlR φ' z s'.heap f fl → Q f s') (e : (Fl.next, ρ1, σ1) = (fl, ρ', σ')) : ∀ φ' s', Step κ b φ s φ' s' → At hb env sc φ' κ ρ1 σ1 s' → Q .next s' := by
  cases e; exact fun φ' s' st X' => h .next φ' s' st X' rfl
theorem h_ret {fl : Fl} {v : V} {ρ' ρ1 : Rho} {σ' σ1 : Sto} {Q : Flow → Shared → Prop} (h : ∀ f φ' s', Step κ b φ s φ' s' → At hb env sc φ' κ ρ' σ' s' → FlR φ' z s'.heap f fl → Q f s') (e : (Fl.ret v, ρ1, σ1) = (fl, ρ', σ')) : ∀ f φ' s', Step κ b φ s φ' s' → At hb env sc φ' κ ρ1 σ1 s' → FlR φ' z s'.heap f (.ret v) → Q f s' := by
  cases e; exact h
theorem h_brk {fl : Fl} {ρ' ρ1 : Rho} {σ' σ1 : Sto} {Q : Flow → Shared → Prop} (h : ∀ f φ' s', Step κ b φ s φ' s' → At hb env sc φ' κ ρ' σ' s' → FlR φ' z s'.heap f fl → Q f s') (e : (Fl.brk, ρ1, σ1) = (fl, ρ', σ')) : ∀ φ' s', Step κ b φ s φ' s' → At hb env sc φ' κ ρ1 σ1 s' → Q .brk s' := by
  cases e; exact fun φ' s' st X' => h .brk φ' s' st X' rfl
theorem At.notκ (X : At hb env sc φ κ ρ σ s) {c : Addr} (hc : s.heap.get? c = none) : c ∉ κ := fun m => no_get (X.O.low _ (List.mem_append_right _ (X.frS.pr _ m))).choose_spec hc
theorem At.notpr (X : At hb env sc φ κ ρ σ s) {c : Addr} (hc : s.heap.get? c = none) : c ∉ φ.pr := fun m => no_get (X.O.low _ (List.mem_append_right _ m)).choose_spec hc
theorem At.notix (X : At hb env sc φ κ ρ σ s) {c : Addr} (hc : s.heap.get? c = none) : c ∉ φ.ix := fun m => no_get (X.O.low _ (List.mem_append_left _ m)).choose_spec hc
theorem step_new {a : Addr} {pr : List Addr} {s' s'' : Shared} (k : Kp s s') (hf : s.heap.get? a = none) (st : Step κ b ⟨φ.ix ++ [a], pr⟩ s' ⟨φ.ix ++ [a], pr⟩ s'') : Step κ b φ s ⟨φ.ix ++ [a], φ.pr⟩ s'' := by
  obtain ⟨hh, tt, rfl, kk⟩ := k
  obtain ⟨h2, t2, e2⟩ := st.sh
  refine ⟨rfl, ⟨[a], rfl, fun b m => (List.mem_singleton.mp m) ▸ hf⟩, ⟨h2, t2, e2⟩, fun b o hb1 hb2 eo => st.keep b o hb1 (fun q => ?_) (kk b o eo)⟩
  have q : b ∈ (φ.ix ++ [a]).drop _ := q
  rw [List.drop_append] at q
  rcases List.mem_append.mp q with q | q
  · exact hb2 q
  · exact no_get eo ((List.mem_singleton.mp (List.mem_of_mem_drop q)) ▸ hf)
theorem step_drop {φ' : Ap} {c : Addr} {s' : Shared} {h' : Heap} (hc : s.heap.get? c = none) (st : Step κ b φ s φ' s') (sb : Heap.SameBut c s'.heap h') : Step κ b φ s φ' { s' with heap := h' } := by
  refine ⟨st.pr, st.ix, ?_, fun a o ha hb eo => (sb.2 a fun q => no_get eo (q ▸ hc)).trans (st.keep a o ha hb eo)⟩
  obtain ⟨h2, t2, rfl⟩ := st.sh
  exact ⟨h', t2, rfl⟩
theorem sx_fresh0 (RO : RecOk prog w hb R m) (hA : AOk A m) (X : At hb env sc φ κ ρ σ s) {x : Str} {q pos : Pos} {value : Expr} {l : List D} {Q : Flow → Shared → Prop} (hx : canStore sc x = true) (hf : isFresh value = true) (el : R.e sc ρ σ value = some (.p (.list l))) (hsw : swapsWith value (some (.Name x q)) pos.line env = pure false)
    (h : ∀ φ' s', Step κ b φ s φ' s' → At hb env sc φ' κ (rset ρ x (.own σ.length)) (σ ++ [l]) s' → Q .next s') : wpAny (model prog w) A (exec (.Assign [.Name x q] value pos) env) Q E s := by
  refine wpAny_Assign_Name (RO.f sc ρ σ value l el hf A φ env s _ E hA X.O X.V fun a vs s' k hf hp r => ?_) hsw
  obtain ⟨X1, r1⟩ := new1 X k hf hp (pr' := φ.pr) (fun c m => .inl m) (fun c m => m) (fun c m => (X.O.kp k).low c (List.mem_append_right _ m)) (X.notpr hf) r
  exact name_ok (b := b) X1 hx r1 fun s'' st X2 => h _ s'' (step_new k hf st) X2
theorem pr_cons {P : Addr → Prop} {c : Addr} {l : List Addr} (h : P c) (hl : ∀ a ∈ l, P a) : ∀ a ∈ c :: l, P a := fun a m => (List.mem_cons.mp m).elim (fun q => q ▸ h) (hl a)
theorem used_in {ix pr : List Addr} {c : Addr} : ∀ y ∈ (⟨ix, c :: pr⟩ : Ap).all, y ∈ c :: (⟨ix, pr⟩ : Ap).all := fun y m => by
  rcases List.mem_append.mp m with q | q
  · exact List.mem_cons_of_mem _ (List.mem_append_left _ q)
  · rcases List.mem_cons.mp q with q | q
    · exact q ▸ List.mem_cons_self
    · exact List.mem_cons_of_mem _ (List.mem_append_right _ q)
theorem sx_fresh1 (RO : RecOk prog w hb R m) (hA : AOk A m) (X : At hb env sc φ κ ρ σ s) {x : Str} {q p pos : Pos} {elt : Expr} {gens : List Comprehension} {scope : Scope} {l : List D} {value : Expr} {Q : Flow → Shared → Prop} (hv : value = .ListComp elt gens scope p) (hx : canStore sc x = true) (el : R.e sc ρ σ value = some (.p (.list l))) (hsw : swapsWith (.ListComp elt gens scope p) (some (.Name x q)) pos.line env = pure true)
    (h : ∀ φ' s', Step κ b φ s φ' s' → At hb env sc φ' κ (rset ρ x (.own σ.length)) (σ ++ [l]) s' → Q .next s') : wpAny (model prog w) A (exec (.Assign [.Name x q] value pos) env) Q E s := by
  subst hv
  rw [exec_Assign_Name_used x q _ pos hsw]
  refine wpAny_bind (wpAny_standAt (wpAny_bind (RO.u sc ρ σ elt gens scope p _ el A φ env s _ _ E hA X.O X.V fun D Cc s' vs l' hl k hD hC hne hns hpl hrep => ?_)))
  obtain rfl := Mine.D.list.inj (V.p.inj hl)
  have hCo : ∃ o, s'.heap.get? Cc = some o := by obtain ⟨_, o, _, _, eo, _⟩ := hns; exact ⟨o, eo⟩
  obtain ⟨X1, r1⟩ := new1 X k hD hpl (pr' := Cc :: φ.pr) (pr_cons (.inr hC) fun _ m => .inl m) (fun c m => List.mem_cons_of_mem _ m) (pr_cons hCo fun c m => (X.O.kp k).low c (List.mem_append_right _ m)) (fun m => (List.mem_cons.mp m).elim hne (X.notpr hD)) (hrep.fewer used_in)
  rw [arm_assign_Name]
  refine wpAny_bind (wpAny_standAt (wpAny_bindName (name_ok (b := b) X1 hx r1 fun s'' st X2 => ?_)))
  obtain ⟨m', n⟩ := hns
  refine ⟨m', n.at' fun o eo => st.keep _ o (X.notκ hC) (fun q => ?_) eo, fun h' sb => wpAny_pure (h ⟨φ.ix ++ [D], φ.pr⟩ _ (step_drop hC (step_new k hD st) sb) (drop_at (φ := ⟨φ.ix ++ [D], φ.pr⟩) X2 (X.frS.pr_eq rfl) (X.notκ hC) (X.notpr hC) fun b o hb e => (sb.2 b hb).trans e))⟩
  exact (List.mem_append.mp (List.mem_of_mem_drop q)).elim (X.notix hC) fun q => hne (List.mem_singleton.mp q).symm
theorem sx_used (RO : RecOk prog w hb R m) (hA : AOk A m) (X : At hb env sc φ κ ρ σ s) {x : Str} {q p pos : Pos} {elt : Expr} {gens : List Comprehension} {scope : Scope} {v : V} {value : Expr} {Q : Flow → Shared → Prop} (hv : value = .ListComp elt gens scope p) (hx : canStore sc x = true) (el : R.e sc ρ σ value = some v) (hsw : swapsWith (.ListComp elt gens scope p) (some (.Name x q)) pos.line env = pure true)
    (h : ∀ φ' s', Step κ b φ s φ' s' → At hb env sc φ' κ (rset ρ x v) σ s' → Q .next s') : wpAny (model prog w) A (exec (.Assign [.Name x q] value pos) env) Q E s := by
  subst hv
  rw [exec_Assign_Name_used x q _ pos hsw]
  refine wpAny_bind (wpAny_standAt (wpAny_bind (RO.u sc ρ σ elt gens scope p _ el A φ env s _ _ E hA X.O X.V fun D Cc s' vs l' hl k hD hC hne hns hpl hrep => ?_)))
  subst hl
  have X1 := grow1 X k hC (by obtain ⟨_, o, _, _, eo, _⟩ := hns; exact ⟨o, eo⟩)
  have r1 : RepV ⟨φ.ix, Cc :: φ.pr⟩ s'.heap (.ref D) (.p (.list l')) := .p (.list (fun m => (List.mem_append.mp m).elim (X.notix hD) fun m => (List.mem_cons.mp m).elim hne (X.notpr hD)) hpl.isList (hrep.fewer used_in))
  rw [arm_assign_Name]
  refine wpAny_bind (wpAny_standAt (wpAny_bindName (name_ok (b := b) X1 hx r1 fun s'' st X2 => ?_)))
  obtain ⟨m', n⟩ := hns
  have st' : Step κ b φ s φ s'' := by
    obtain ⟨hh, tt, rfl, kk⟩ := k
    exact ⟨rfl, ⟨[], (List.append_nil _).symm, fun _ h => nomatch h⟩, st.sh, fun b o hb1 hb2 eo => st.keep b o hb1 hb2 (kk b o eo)⟩
  exact ⟨m', n.at' fun o eo => st.keep _ o (X.notκ hC) (fun q => X.notix hC (List.mem_of_mem_drop q)) eo, fun h' sb => wpAny_pure (h φ _ (step_drop hC st' sb) (drop_at X2 X.frS (X.notκ hC) (X.notpr hC) fun b o hb e => (sb.2 b hb).trans e))⟩
theorem sx_Name (RO : RecOk prog w hb R m) (B : Base hb mg mb) (CO : CtxOk prog w hb mg C m) (hA : AOk A m) (X : At hb env sc φ κ ρ σ s) {mu : List Str} {x : Str} {q pos : Pos} {value : Expr} {fl : Fl} {ρ' : Rho} {σ' : Sto} {Q : Flow → Shared → Prop}
    (e : stepA C R mu b sc ρ σ value (.Name x q) = some (fl, ρ', σ')) (h : ∀ f φ' s', Step κ b φ s φ' s' → At hb env sc φ' κ ρ' σ' s' → FlR φ' z s'.heap f fl → Q f s') : wpAny (model prog w) A (exec (.Assign [.Name x q] value pos) env) Q E s := by
  replace e : cond (mu.contains x) _ _ = some (fl, ρ', σ') := e
  cases hm : mu.contains x with
  | true =>
    rw [hm] at e
    refine gk e fun hc e => bk e fun v ev e => mk' e fun l el e3 => ?_
    have h := h_next h e3
    rw [isLst el] at ev
    exact swaps_k RO ev (fun hsw => sx_fresh0 RO hA X (an hc).2 (an hc).1 ev hsw h) fun elt gens scope p hv hsw => sx_fresh1 RO hA X hv (an hc).2 ev hsw h
  | false =>
    rw [hm] at e
    refine gk e fun hc e => mk' e fun y ez e3 => ?_
    have h := h_next h e3
    exact evA_k RO ez (fun hsw => wpAny_Assign_Name (evA_run B CO RO.e hA X ez fun u s' st X' r => name_ok X' hc r fun s'' st' X'' => h _ s'' (st.tr X' st') X'') hsw) fun elt gens scope p v hv hsw el e4 => sx_used RO hA X hv hc el hsw (e4 ▸ h)
end
end
section
open PySem PySem.Calls PyProof.Rows PySem.W PySem.SeqAt
set_option autoImplicit false
-- S19
theorem mapSeq_plain (f : Array Value → Array Value) (its : Array Value) (n : Nat) : ∃ n', Obj.mapSeq f { cls := .type "list", data := .seq its n } = { cls := .type "list", data := .seq (f its) n' } := by
  simp only [Obj.mapSeq]; exact ⟨_, rfl⟩
section
variable {prog : Program} {w : World} {A : Around} {E : Value → Shared → Prop} {s : Shared}
theorem plain_update {h : Heap} {a : Addr} {its : Array Value} {n : Nat} (ho : h.get? a = some { cls := .type "list", data := .seq its n }) (f : Array Value → Array Value) : (h.update a (Obj.mapSeq f)).PlainList a (f its) := by
  obtain ⟨n', e⟩ := mapSeq_plain f its n
  exact ⟨n', by rw [Heap.get?_update_self _ ho (by rw [e]; rfl), e]⟩
theorem setItem_plain {l : Addr} {items : Array Value} {k : Int} {t : Tok} {v : Value} {Q : Unit → Shared → Prop} (hl : s.heap.PlainList l items)
    (h0 : 0 ≤ k) (hfit : k < 2 ^ 63) (hn : k < items.size)
    (hQ : ∀ h', h'.PlainList l (items.setIfInBounds k.toNat v) → Heap.SameBut l s.heap h' → Q () { s with heap := h' }) :
    wpAny (model prog w) A (setItem (.ref l) (.int k t) v) Q E s := by
  have hI := hl.isList
  obtain ⟨ne, ho⟩ := hl
  unfold setItem
  try with_reducible refine wpAny_holding ?_
  first | refine wpAny_bind (wpAny_pure ?_) | skip
  refine wpAny_bind (wpAny_sequenceKey hI.typeIs (by decide) ?_)
  refine wpAny_bind (wpAny_callSpecial?_slot (name := Str.ofString "__setitem__") hI.typeIs slot_list_setitem
    (wpAny_call_entry slot_list_setitem hI.typeIs entry_list_setitem ?_ (args_list_setitem _ _ _)))
  show wpAny _ _ (Builtin.List.listSubscript? (.int k t) >>= _) _ _ s
  refine wpAny_bind (wpAny_listSubscript_int (fitsIndex_of h0 hfit) ?_)
  clear hfit
  obtain ⟨j, rfl⟩ := Int.eq_ofNat_of_zero_le h0
  have hj : j < items.size := by omega
  have hx' : items[j]? = some items[j] := Array.getElem?_eq_getElem hj
  show wpAny _ _ ((seqItemAt l j >>= fun r => pure (r.map (j, ·))) >>= _) _ _ s
  refine wpAny_bind (wpAny_bind (wpAny_seqItemAt ho rfl (wpAny_pure ?_)))
  rw [hx']
  show wpAny _ _ (setSeqItemAt l j v >>= _) _ _ s
  have hfin := plain_update ho (·.setIfInBounds j v)
  refine wpAny_bind (wpAny_setSeqItemAt ho rfl ?_)
  first
    | exact wpAny_bind (wpAny_pure (wpAny_pure ⟨.none, rfl, wpAny_pure (hQ _ hfin (Heap.SameBut.update ..))⟩))
    | exact wpAny_pure ⟨.none, rfl, wpAny_pure (hQ _ hfin (Heap.SameBut.update ..))⟩
theorem listItems_my {M : Model} {a : Addr} {items : Array Value} {Q : Array Value → Shared → Prop} (hx : s.heap.IsList a items) (h : Q items s) : wpAny M A (Builtin.List.listItems (.ref a)) Q E s := by
  obtain ⟨o, ho, _, n, hd⟩ := hx
  unfold Builtin.List.listItems
  exact wpAny_bind (wpAny_seqItems ho hd (wpAny_pure h))
theorem listAll_my {M : Model} {a : Addr} {items : Array Value} {msg : String} {Q : Array Value → Shared → Prop} (hx : s.heap.IsList a items) (h : Q items s) : wpAny M A (Builtin.List.listAllItems (.ref a) msg) Q E s := by
  unfold Builtin.List.listAllItems
  refine wpAny_bind (wpAny_typeOf hx.typeIs ?_)
  rw [if_pos (by decide)]
  first | exact listItems_my hx h | exact wpAny_bind (listItems_my hx (wpAny_pure h))
theorem setAll_plain {l b sl : Addr} {items ys : Array Value} {Q : Unit → Shared → Prop} (hl : s.heap.PlainList l items) (hb : s.heap.IsList b ys) (hne : l ≠ b) (hs : s.heap.IsSliceOf sl .none .none .none)
    (h1 : items.size ≤ 1000) (h2 : ys.size ≤ 1000)
    (hQ : ∀ h', h'.PlainList l ys → Heap.SameBut l s.heap h' → Q () { s with heap := h' }) :
    wpAny (model prog w) A (setItem (.ref l) (.ref sl) (.ref b)) Q E s := by
  have hI := hl.isList
  obtain ⟨ne, ho⟩ := hl
  obtain ⟨ob, hob, hcb, nb, hdb⟩ := id hb
  obtain ⟨os, hos, hcs, hds⟩ := id hs
  have hTs : s.TypeIs (.ref sl) "slice" := ⟨os, hos, hcs⟩
  unfold setItem
  try with_reducible refine wpAny_holding ?_
  first | refine wpAny_bind (wpAny_pure ?_) | skip
  refine wpAny_bind (wpAny_sequenceKey hI.typeIs (by decide) ?_)
  refine wpAny_bind (wpAny_callSpecial?_slot (name := Str.ofString "__setitem__") hI.typeIs slot_list_setitem
    (wpAny_call_entry slot_list_setitem hI.typeIs entry_list_setitem ?_ (args_list_setitem _ _ _)))
  show wpAny _ _ (Builtin.List.listSubscript? (.ref sl) >>= _) _ _ s
  refine wpAny_bind ?_
  unfold Builtin.List.listSubscript?
  refine wpAny_bind (wpAny_specialOf hTs slice_no_index ?_)
  refine wp_ifT (c := Option.isNone (none : Option Value)) rfl (wpAny_pure ?_)
  show wpAny _ _ (typeOf (.ref sl) >>= _) _ _ s
  refine wpAny_bind (wpAny_typeOf hTs ?_)
  rw [if_neg (by decide)]
  rw [listSliceParts_eq]
  refine wpAny_bind (wpAny_bind (wpAny_field hos hds (x := .none) rfl (wpAny_bind (wpAny_listPart .none ?_))))
  rw [if_neg (show ¬ ((rawPart none == rawInt 0) = true) from Bool.false_ne_true)]
  refine wpAny_bind (wpAny_field hos hds (x := .none) rfl (wpAny_bind (wpAny_listPart .none ?_)))
  refine wpAny_bind (wpAny_field hos hds (x := .none) rfl (wpAny_bind (wpAny_listPart .none (wpAny_pure ?_))))
  refine wp_ifF (c := Builtin.List.listSameRef (.ref l) (.ref b)) (beq_eq_false_iff_ne.mpr hne) ?_
  refine wpAny_bind (listAll_my hb ?_)
  refine wpAny_bind (listItems_my hI ?_)
  refine wpAny_bind (wpAny_of_eq (sliceIndices_raw none none none items.size (by simp)) ?_)
  show wpAny _ _ (if ((1 : Int) == 1) = true then _ else _) _ _ s
  rw [if_pos (by decide)]
  refine wpAny_bind (wpAny_rule ?_)
  refine wp_ifF (c := Builtin.List.listTooLong (items.size + ys.size)) (decide_eq_false (by rw [sizeLine_eq]; omega)) ?_
  show wpAny _ _ (updateSeq l _ >>= _) _ _ s
  have hfin := plain_update ho fun xs => xs.extract 0 (sliceBounds none none none items.size).1.toNat ++ ys ++ xs.extract (max (sliceBounds none none none items.size).1 (sliceBounds none none none items.size).2.1).toNat xs.size
  have he : items.extract 0 (sliceBounds none none none items.size).1.toNat ++ ys ++ items.extract (max (sliceBounds none none none items.size).1 (sliceBounds none none none items.size).2.1).toNat items.size = ys := by
    have e1 : (sliceBounds none none none items.size).1 = 0 := rfl
    have e2 : (sliceBounds none none none items.size).2.1 = items.size := rfl
    rw [e1, e2]
    have e3 : (max (0 : Int) items.size).toNat = items.size := by omega
    rw [e3]
    simp
  rw [he] at hfin
  refine wpAny_bind (wpAny_updateSeq ho rfl (wpAny_bind (wpAny_letGo ?_)) (hz := by rw [sizeLine_eq]; exact Nat.le_trans h1 (by decide)) (_hz' := Nat.le_trans (Nat.le_of_eq (congrArg Array.size he)) (by rw [sizeLine_eq]; exact Nat.le_trans h2 (by decide))))
  first
    | exact wpAny_bind (wpAny_pure (wpAny_pure ⟨.none, rfl, wpAny_pure (hQ _ hfin (Heap.SameBut.update ..))⟩))
    | exact wpAny_pure ⟨.none, rfl, wpAny_pure (hQ _ hfin (Heap.SameBut.update ..))⟩
end
-- S20
section
variable {prog : Program} {w : World} {hb : Heap} {mg mb : Str → Option Value} {C : Ctx} {R : Rec} {m b z : Nat} {sc : Sc} {ρ : Rho} {σ : Sto} {A : Around} {φ : Ap} {κ : List Addr} {env : Env} {s : Shared} {E : Value → Shared → Prop}
theorem put_at (X : At hb env sc φ κ ρ σ s) {h' : Heap} {t : Nat} {i : Nat} {l l' : List D} {a : Addr} {vs' : List Value} (hl : σ[i]? = some l) (ha : φ.ix[i]? = some a) (hbi : b ≤ i) (hs : ∀ c o, c ≠ a → s.heap.get? c = some o → h'.get? c = some o) (hp : h'.PlainList a vs'.toArray) (r : RepA φ.all s.heap vs' l') :
    At hb env sc φ κ ρ (σ.set i l') { s with heap := h', toks := t } ∧ Step κ b φ s φ { s with heap := h', toks := t } := by
  have haix : a ∈ φ.ix := List.mem_of_getElem? ha
  have hall : a ∈ φ.all := List.mem_append_left _ haix
  have haκ : ∀ c, c ∈ κ → c ≠ a := fun c m q => X.O.disj a haix (q ▸ X.frS.pr c m)
  have kκ : ∀ c o, c ∈ κ → s.heap.get? c = some o → h'.get? c = some o := fun c o m e => hs c o (haκ c m) e
  refine ⟨⟨put_ok X.O hl ha hs hp r, X.V.keepKb X.frS kκ fun c o hc e => hs c o (fun q => hc (q ▸ hall)) e, X.F.keepκ kκ, X.frS⟩, ⟨rfl, ⟨[], by simp, fun _ h => by cases h⟩, ⟨h', t, rfl⟩, fun c o _ hc e => hs c o (fun q => hc ?_) e⟩⟩
  subst q
  rw [List.mem_iff_getElem?]
  exact ⟨i - b, by rw [List.getElem?_drop, Nat.add_sub_cancel' hbi]; exact ha⟩
theorem put_k {P : Prop} {f : List D → Option (List D)} {i : Nat} {σ' : Sto} (e : put σ b i f = some σ') (k : b ≤ i → ∀ l l', σ[i]? = some l → f l = some l' → σ.set i l' = σ' → P) : P :=
  gk e fun hb e => bk e fun l hl e => mk' e fun l' hf e => k (of_decide_eq_true hb) l l' hl hf e
inductive OwnAt (φ : Ap) (h : Heap) (i : Nat) (l : List D) : Value → Prop
  | mk (a : Addr) (vs : List Value) (q : φ.ix[i]? = some a) (p : h.PlainList a (List.toArray vs)) (r : RepA φ.all h vs l) : OwnAt φ h i l (.ref a)
theorem own_at (O : StoOk hb φ σ s.heap) {u : Value} {i : Nat} {l : List D} (r : OwnRep φ i u) (hl : σ[i]? = some l) : OwnAt φ s.heap i l u := by
  cases r with
  | mk a q =>
    obtain ⟨a', vs, e1, e2, e3⟩ := O.sto i l hl
    obtain rfl := Option.some.inj (q.symm.trans e1)
    exact ⟨_, vs, q, e2, e3⟩
theorem wp_assign_sub {o i : Expr} {pos : Pos} {v : Value} {Q : Unit → Shared → Prop}
    (h : wpAny (model prog w) A (eval o env) (fun ov s₁ => wpAny (model prog w) A (eval i env) (fun iv s₂ => wpAny (model prog w) A (setItem ov iv v) Q E s₂) E s₁) E s) : wpAny (model prog w) A (assign (.Subscript o i pos) env v) Q E s := by
  rw [arm_assign_Subscript]
  exact wpAny_bind (wpAny_holding (wpAny_mono h (fun ov s₁ h₁ => wpAny_bind (wpAny_holding (wpAny_mono h₁ (fun iv s₂ h₂ => wpAny_bind (wpAny_standAt (wpAny_bind (wpAny_holding (wpAny_mono h₂ (fun _ s₃ h₃ => wpAny_release h₃) fun _ _ x => x))))) fun _ _ x => x))) fun _ _ x => x))
theorem RepA.setAt {χ : List Addr} {h : Heap} {u : Value} {d : D} (rd : RepD χ h u d) {vs : List Value} : ∀ {l : List D} (n : Nat), RepA χ h vs l → RepA χ h (vs.set n u) (l.set n d) := by
  induction vs with
  | nil => intro l n x; cases x; simpa using RepA.nil
  | cons v0 vs ih =>
    intro l n x
    cases x with
    | cons a r => cases n with
      | zero => exact .cons rd r
      | succ n => exact .cons a (ih n r)
theorem assign_own (hA : AOk A m) (X : At hb env sc φ κ ρ σ s) {k : Nat} {j : Int} {d : D} {u uo : Value} {t : Tok} {σ' : Sto} {Q : Unit → Shared → Prop} (ro : OwnRep φ k uo) (hj : (small j && decide (0 ≤ j)) = true)
    (e : put σ b k (fun l => if decide (j < l.length) then some (l.set j.toNat d) else none) = some σ') (r : RepD φ.all s.heap u d) (h : ∀ s', Step κ b φ s φ s' → At hb env sc φ κ ρ σ' s' → Q () s') : wpAny (model prog w) A (setItem uo (.int j t) u) Q E s := by
  refine put_k e fun hbk l l' hl hf es => gk hf fun hjl hf => ?_
  cases own_at X.O ro hl with
  | mk a vs ha hp ra =>
    refine setItem_plain hp (of_decide_eq_true (an hj).2) (small_hi (an hj).1) (by rw [ra.size]; exact of_decide_eq_true hjl) fun h' hp' sb => ?_
    rw [show vs.toArray.setIfInBounds j.toNat u = (vs.set j.toNat u).toArray from List.setIfInBounds_toArray ..] at hp'
    obtain ⟨Y, st⟩ := put_at (b := b) (t := s.toks) X hl ha hbk (fun c o hc eo => (sb.2 c hc).trans eo) hp' (Option.some.inj hf ▸ ra.setAt r _)
    exact h _ st (es ▸ Y)
theorem assign_idx (CO : CtxOk prog w hb mg C m) (RO : RecOk prog w hb R m) (hA : AOk A m) (X : At hb env sc φ κ ρ σ s) {o i : Expr} {pos : Pos} {v : V} {u : Value} {ρ' : Rho} {σ' : Sto} {Q : Unit → Shared → Prop}
    (e : assignIdx C R sc b ρ σ v o i = some (ρ', σ')) (r : RepV φ s.heap u v) (h : ∀ s', Step κ b φ s φ s' → At hb env sc φ κ ρ' σ' s' → Q () s') : wpAny (model prog w) A (assign (.Subscript o i pos) env u) Q E s := by
  refine bk e fun d ed e => bk e fun ov eo e => bk e fun iv ei e => wp_assign_sub (RO.e sc ρ σ o _ eo A φ env s _ E hA X.O X.V fun uo s₁ k₁ r₁ => RO.e sc ρ σ i _ ei A φ env s₁ _ E hA (X.O.kp k₁) (X.V.kp k₁) fun ui s₂ k₂ r₂ => ?_)
  have K := k₁.trans k₂
  have X2 := X.kp K
  have rd := (rD r ed).keep (K.kb φ.all)
  have h2 : ∀ {y : Rho × Sto}, y = (ρ', σ') → ∀ s', Step κ b φ s₂ φ s' → At hb env sc φ κ y.1 y.2 s' → Q () s' := fun e s' st Y => by subst e; exact h s' (Step.tr K.step X2 st) Y
  refine ok e (fun e => bk e fun k ek e => bk e fun j ej e => gk e fun hj e => mk' e fun σ1 ep e1 => ?_) fun e => bk e fun k ek e => bk e fun i' ei' e => gk e fun hb0 e => mk' e fun σ1 ep e1 => ?_
  · exact kInt ui r₂ ej fun t => assign_own hA X2 (rOwn (r₁.keep (k₂.kb _)) ek) hj ep rd (h2 e1)
  · obtain rfl : b = 0 := eq_of_beq hb0
    cases rHdr (r₁.keep (k₂.kb φ.all)) ek with
    | mk a b q z => exact CO.hset A φ σ _ k ui i' u d σ1 s₂ Q E hA X2.O (.hdr q z) (rD r₂ ei') rd ep fun s' kk O' => h2 e1 s' (kps_step kk) (kps_at X2 kk O')
theorem assign_all (RO : RecOk prog w hb R m) (hA : AOk A m) (X : At hb env sc φ κ ρ σ s) {o : Expr} {p pos : Pos} {v : V} {u : Value} {ρ' : Rho} {σ' : Sto} {Q : Unit → Shared → Prop}
    (e : assignAll R sc b ρ σ v o = some (ρ', σ')) (r : RepV φ s.heap u v) (h : ∀ s', Step κ b φ s φ s' → At hb env sc φ κ ρ' σ' s' → Q () s') : wpAny (model prog w) A (assign (.Subscript o (.Slice none none none p) pos) env u) Q E s := by
  refine bk e fun ov eo e => bk e fun i ei e => bk e fun l el e => gk e fun hl1 e => mk' e fun σ1 ep e1 => put_k ep fun hbk l0 l' hl hf es => gk hf fun hl0 hf => ?_
  refine wp_assign_sub (RO.e sc ρ σ o _ eo A φ env s _ E hA X.O X.V fun uo s₁ k₁ r₁ => wpAny_Slice ?_)
  rw [evalPart_none]
  refine wpAny_pure (wpAny_pure (wpAny_pure ?_))
  have Kp1 := Kp.push' s₁ { cls := .type "slice", data := .fields #[.none, .none, .none] }
  have K := k₁.trans Kp1
  have X2 := X.kp K
  cases own_at X2.O (rOwn (r₁.keep (Kp1.kb _)) ei) hl with
  | mk a vs ha hp ra =>
    obtain ⟨c, ws, rfl, hnc, hxc, rc⟩ := rLst (r.keep (K.kb _)) el
    refine setAll_plain hp hxc (fun q => hnc (q ▸ List.mem_append_left _ (List.mem_of_getElem? ha))) (Heap.IsSliceOf.new ..) (by rw [ra.size]; exact of_decide_eq_true hl0) (by rw [rc.size]; exact of_decide_eq_true hl1) fun h' hp' sb => ?_
    obtain ⟨Y, st⟩ := put_at (b := b) (t := s₁.toks) X2 hl ha hbk (fun c o hc eo => (sb.2 c hc).trans eo) hp' (Option.some.inj hf ▸ rc)
    obtain ⟨rfl, rfl⟩ := Prod.mk.inj e1
    exact h _ (Step.tr K.step X2 st) (es ▸ Y)
theorem isFull {i : Expr} (h : fullSlice i = true) : ∃ p, i = .Slice none none none p :=
  any_k h fun z ez h => (isSlice ez).imp fun p e => e.trans (by rw [Option.isNone_iff_eq_none.mp (an (an h).1).1, Option.isNone_iff_eq_none.mp (an (an h).1).2, Option.isNone_iff_eq_none.mp (an h).2])
theorem assignTo_ok (CO : CtxOk prog w hb mg C m) (RO : RecOk prog w hb R m) (hA : AOk A m) (X : At hb env sc φ κ ρ σ s) {t : Expr} {v : V} {u : Value} {ρ' : Rho} {σ' : Sto} {Q : Unit → Shared → Prop} (hn : nm? t = none) (e : assignTo C R sc b ρ σ v t = some (ρ', σ')) (r : RepV φ s.heap u v)
    (h : ∀ s', Step κ b φ s φ s' → At hb env sc φ κ ρ' σ' s' → Q () s') : wpAny (model prog w) A (assign t env u) Q E s := by
  cases t with
  | Tuple es k q => exact gk e fun hc e => mk' e fun ρ1 e1 e2 => target_ok hA.1 X.O X.V X.frS.pr X.F e1 hc r fun s' pk O' V' F' => h s' pk.step ((Prod.mk.inj e2).1 ▸ (Prod.mk.inj e2).2 ▸ ⟨O', V', F', X.frS⟩)
  | Subscript o i pos =>
    cases hf : fullSlice i with
    | true =>
      replace e : cond (fullSlice i) _ _ = some (ρ', σ') := e
      rw [hf] at e
      obtain ⟨p, rfl⟩ := isFull hf
      exact assign_all (b := b) RO hA X e r h
    | false =>
      replace e : cond (fullSlice i) _ _ = some (ρ', σ') := e
      rw [hf] at e
      exact gk e fun _ e => assign_idx (b := b) CO RO hA X e r h
  | Name x q => exact nn hn.symm
  | _ => exact nn e
theorem swaps_no {t value : Expr} {l : Nat} {env : Env} (hn : nm? t = none) : swapsWithSole [t] value l env = pure false := by
  cases value <;> first | rfl | (cases t <;> first | rfl | exact nn hn.symm)
theorem stores_no {t value : Expr} {env : Env} (hd : isDisplay value = false) : swappedStores [t] value env = pure none := by
  cases t <;> first | rfl | (cases value <;> first | rfl | exact nf hd.symm)
theorem each_one {C : Ctx} {R : Rec} {sc : Sc} {b : Nat} {ρ : Rho} {σ : Sto} {v : V} {t : Expr} {y : Rho × Sto} {env : Env} (ez : assignTo C R sc b ρ σ v t = some y) : (assignEach [t] env).map (·.2) = [assign t env] := by
  cases t <;> first | rfl | exact nn ez
theorem sx_Assign (RO : RecOk prog w hb R m) (B : Base hb mg mb) (CO : CtxOk prog w hb mg C m) (hA : AOk A m) (X : At hb env sc φ κ ρ σ s) {mu : List Str} {t : Expr} {pos : Pos} {value : Expr} {fl : Fl} {ρ' : Rho} {σ' : Sto} {Q : Flow → Shared → Prop}
    (e : stepA C R mu b sc ρ σ value t = some (fl, ρ', σ')) (h : ∀ f φ' s', Step κ b φ s φ' s' → At hb env sc φ' κ ρ' σ' s' → FlR φ' z s'.heap f fl → Q f s') : wpAny (model prog w) A (exec (.Assign [t] value pos) env) Q E s := by
  cases hn : nm? t with
  | some x =>
    obtain ⟨q, rfl⟩ := isName hn
    exact sx_Name RO B CO hA X e h
  | none =>
    unfold stepA at e
    rw [hn] at e
    refine gk e fun hd e => bk e fun y ey e => mk' e fun zz ez e3 => ?_
    have h := h_next h e3
    refine wpAny_Assign_stores (evA_run B CO RO.e hA X ey fun u s' st X' r => ?_) (swaps_no hn) (stores_no (Bool.not_eq_true' _ ▸ hd))
    rw [each_one ez]
    exact assignTo_ok CO RO hA X' hn ez r fun s'' st' X'' => h _ s'' (st.tr X' st') X''
end
-- S21
section
variable {prog : Program} {w : World} {hb : Heap} {mg mb : Str → Option Value} {C : Ctx} {R : Rec} {m b z : Nat} {sc : Sc} {ρ : Rho} {σ : Sto} {A : Around} {φ : Ap} {κ : List Addr} {env : Env} {s : Shared} {E : Value → Shared → Prop}
theorem held_loadName {x : Str} {u : Value} {Q : Value → Shared → Prop} (VE : EnvOk env sc φ ρ s.heap) (e : Held env s.heap x u) (h : Q u s) : wpAny (model prog w) A (loadName env x) Q E s := by
  rcases e with ⟨a, mm, n, q⟩ | ⟨a, hc, c, l, n⟩
  · exact wpAny_loadName_local VE.kind a n q h
  · rcases a with a | a
    · exact wpAny_loadName_cell VE.kind a l n h
    · exact wpAny_loadName_free VE.kind a l n h hc
theorem star_evA (RO : RecOk prog w hb R m) {x : Expr} {y : V × Sto} (ex : evA C R b sc ρ σ x = some y) : ∀ y p, x ≠ .Starred y p := fun y p hx => by
  subst hx
  exact mk' (o := R.e sc ρ σ (.Starred y p)) ex fun v e1 _ => nn ((RO.st ..).symm.trans e1)
theorem append_own (X : At hb env sc φ κ ρ σ s) {i : Nat} {d : D} {u : Value} {σ'' : Sto} {a : Addr} {Q : Value → Shared → Prop} (q : φ.ix[i]? = some a) (r : RepD φ.all s.heap u d) (ep : put σ b i (fun l => if decide (l.length < lim) then some (l ++ [d]) else none) = some σ'')
    (h : ∀ s', Step κ b φ s φ s' → At hb env sc φ κ ρ σ'' s' → Q .none s') : wpAny (model prog w) A (call (.builtin "list.append") [.ref a, u]) Q E s := by
  refine put_k ep fun hbi l l' hl hf es => gk hf fun hlen hf => ?_
  obtain ⟨a', vs, e1, hp, ra⟩ := X.O.sto i l hl
  obtain rfl := Option.some.inj (q.symm.trans e1)
  refine wpAny_list_append_plain hp (fun h' hp' sb => ?_) (by rw [sizeLine_eq, ra.size]; exact Nat.le_of_lt (of_decide_eq_true hlen))
  obtain ⟨Y, st⟩ := put_at (b := b) (t := s.toks) X hl q hbi (fun c o hc eo => (sb.2 c hc).trans eo) (List.push_toArray vs u ▸ hp') (Option.some.inj hf ▸ ra.append (.cons r .nil))
  exact h _ st (es ▸ Y)
theorem sx_append (B : Base hb mg mb) (CO : CtxOk prog w hb mg C m) (RO : RecOk prog w hb R m) (hA : AOk A m) (X : At hb env sc φ κ ρ σ s) {o x : Expr} {n : Str} {ap cp pos : Pos} {y : Fl × Rho × Sto} {Q : Flow → Shared → Prop}
    (e : appendS C R b sc ρ σ o n (ap.endLine == cp.line) x = some y)
    (h : ∀ s' σ'', (Fl.next, ρ, σ'') = y → Step κ b φ s φ s' → At hb env sc φ κ ρ σ'' s' → Q .next s') : wpAny (model prog w) A (exec (.Expr (.Call (.Attribute o n ap) [x] [] cp) pos) env) Q E s := by
  refine gk e fun hc e => bk e fun ov eo e => bk e fun i ei e => bk e fun z ex e => bk e fun d ed e => mk' e fun σ'' ep e3 => ?_
  obtain rfl : n = "append" := eq_of_beq (an (an hc).1).1
  refine wpAny_Expr ?_ (by unfold interactive; rw [X.V.kind]; rfl)
  rw [arm_eval_Call]
  refine wpAny_bind (attributeBase_my (an (an hc).1).2 (RO.e sc ρ σ o _ eo A φ env s _ E hA X.O X.V fun uo s₁ k₁ r₁ => wpAny_bind (wpAny_standAt ?_)))
  have X1 := X.kp k₁
  have hstar := star_evA RO ex
  cases rOwn r₁ ei with
  | mk a q =>
    have hi : i < σ.length := X.O.len ▸ (List.getElem?_eq_some_iff.mp q).1
    obtain ⟨a', vs0, e1, ⟨n0, ho0⟩, _⟩ := X1.O.sto i σ[i] (List.getElem?_eq_getElem hi)
    obtain rfl := Option.some.inj (q.symm.trans e1)
    have hpos : methodCallPos true o env ap cp = pure cp := by unfold methodCallPos; rw [(an hc).2, Bool.or_true, if_pos rfl]
    unfold methodCall
    rw [show methodCallForm ([x].length + ([] : List Keyword).length) (backTo cp (starEach [x] env)) (backToKw cp (keywordEach [] env)) = true by rw [starEach_cons hstar]; rfl]
    refine wpAny_bind (wpAny_holding (getMethod_list_append ho0 rfl rfl (wpAny_bind (wpAny_of_eq hpos (callWith_my (k := .machine) rfl (by rw [starEach_cons hstar]; rfl) ?_)))))
    rw [starEach_cons hstar]
    exact Calls.spliced_cons (evA_run B CO RO.e hA X1 ex fun u s₂ st₂ X2 r₂ => Calls.spliced_nil (wpAny_evalAll_nil ⟨fun Q' hq => wpAny_pure hq, append_own X2 q (rD r₂ ed) ep fun s' st Y => h s' σ'' e3 (Step.tr (Step.tr k₁.step X1 st₂) X2 st) Y⟩))
end
-- S22
section
variable {prog : Program} {w : World} {hb : Heap} {mg mb : Str → Option Value} {C : Ctx} {R : Rec} {m b z : Nat} {sc : Sc} {ρ : Rho} {σ : Sto} {A : Around} {φ : Ap} {κ : List Addr} {env : Env} {s : Shared} {E : Value → Shared → Prop}
theorem loop_k {P : Prop} {W : Rho → Sto → Option (Fl × Rho × Sto)} {y r : Fl × Rho × Sto} (e : loopK W y = some r) (k1 : y.1 = .next → W y.2.1 y.2.2 = some r → P) (k2 : y.1 = .brk → (Fl.next, y.2.1, y.2.2) = r → P) (k3 : ∀ v, y.1 = .ret v → (Fl.ret v, y.2.1, y.2.2) = r → P) : P := by
  obtain ⟨f, z⟩ := y
  cases f with
  | next => exact k1 rfl e
  | brk => exact k2 rfl (Option.some.inj e)
  | ret v => exact k3 v rfl (Option.some.inj e)
theorem body_k {P : Prop} {W : Rho → Sto → Option (Fl × Rho × Sto)} {y r : Fl × Rho × Sto} (e : bodyK W y = some r) (k1 : y.1 = .next → W y.2.1 y.2.2 = some r → P) (k2 : y.1 = .brk → (Fl.brk, y.2.1, y.2.2) = r → P) (k3 : ∀ v, y.1 = .ret v → (Fl.ret v, y.2.1, y.2.2) = r → P) : P := by
  obtain ⟨f, z⟩ := y
  cases f with
  | next => exact k1 rfl e
  | brk => exact k2 rfl (Option.some.inj e)
  | ret v => exact k3 v rfl (Option.some.inj e)
theorem fl_at {φ : Ap} {h : Heap} {f : Flow} {a c : Fl} (e : a = c) (x : FlR φ z h f a) : FlR φ z h f c := e ▸ x
theorem body_run {S : Sc → Rho → Sto → Stmt → Option (Fl × Rho × Sto)} (hS : SX prog w hb S b z m) (hA : AOk A m) {stmts : List Stmt} : ∀ {ρ : Rho} {σ : Sto} {φ : Ap} {s : Shared} {fl : Fl} {ρ' : Rho} {σ' : Sto} {Q : Flow → Shared → Prop}, body (S sc) stmts ρ σ = some (fl, ρ', σ') →
    At hb env sc φ κ ρ σ s → z ≤ σ.length → (∀ f φ' s', Step κ b φ s φ' s' → At hb env sc φ' κ ρ' σ' s' → FlR φ' z s'.heap f fl → Q f s') → wpAny (model prog w) A (execs stmts env) Q E s := by
  induction stmts with
  | nil =>
    intro ρ σ φ s fl ρ' σ' Q e X hz h
    cases e
    exact wpAny_execs_nil (h .next φ s (Step.refl κ b φ s) X rfl)
  | cons st r ih =>
    intro ρ σ φ s fl ρ' σ' Q e X hz h
    refine bk e fun y e1 e => wpAny_execs_cons (hS sc ρ σ st y.1 y.2.1 y.2.2 e1 A φ κ env s _ E hA X hz fun f φ1 s1 st1 X1 hf => ?_)
    refine body_k e (fun hn e => ?_) (fun hn er => ?_) fun v hn er => ?_
    · obtain rfl : f = .next := fl_at hn hf
      exact ih e X1 (Nat.le_trans hz (X.len_le st1 X1)) fun f φ' s' st' X' hf' => h f φ' s' (st1.tr X1 st') X' hf'
    · obtain rfl : f = .brk := fl_at hn hf
      exact h_brk h er φ1 s1 st1 X1
    · have hf := fl_at hn hf
      have hq := h_ret h er f φ1 s1 st1 X1 hf
      obtain ⟨u, hf', _⟩ := hf; subst hf'; exact hq
theorem sx_aug (RO : RecOk prog w hb R m) (hA : AOk A m) (X : At hb env sc φ κ ρ σ s) {x : Str} {q pos : Pos} {op : Operator} {value : Expr} {y : Fl × Rho × Sto} {Q : Flow → Shared → Prop} (e : augS R sc ρ σ x op value = some y)
    (h : ∀ s' v, (Fl.next, rset ρ x v, σ) = y → Step κ b φ s φ s' → At hb env sc φ κ (rset ρ x v) σ s' → Q .next s') : wpAny (model prog w) A (exec (.AugAssign (.Name x q) op value pos) env) Q E s := by
  refine gk e fun hc e => bk e fun ux el e => bk e fun a ea e => bk e fun uy ev e => bk e fun c ec e => mk' e fun v eo e3 => ?_
  obtain ⟨u, hu, ru⟩ := X.V.vars x _ el (Bool.not_eq_true' _ ▸ (an (an hc).1).2)
  refine wpAny_AugAssign_Name (held_loadName X.V hu (RO.e sc ρ σ value _ ev A φ env s _ E hA X.O X.V fun u' s₁ k₁ r₁ => ?_))
  have X1 := X.kp k₁
  refine kInt u ru ea fun t => kInt u' r₁ ec fun t' => ?_
  have fin : ∀ {i : Int} {t2 : Tok} {n : Nat}, some (V.p (.int i)) = some v → wpAny (model prog w) A (storeName env x (.int i t2)) (fun _ => Q .next) E { s₁ with toks := n } := fun {i t2 n} hv =>
    have k2 := Kp.toks s₁ n
    name_ok (b := b) (X1.kp k2) (an (an hc).1).1 (v := v) (Option.some.inj hv ▸ .p (.int i t2)) fun s' st X' => h s' v e3 (Step.tr k₁.step X1 (Step.tr k2.step (X1.kp k2) st)) X'
  cases op with
  | BitAnd => exact PyProof.Rows.iand_int (fin eo)
  | BitOr => exact PyProof.Rows.ior_int (fin eo)
  | LShift => exact gk eo fun hs eo => PyProof.Rows.ilshift_int_small (of_decide_eq_true (an (an hs).1).1) (Int.le_trans (of_decide_eq_true (an (an hs).1).2) (by decide)) (small_abs (an hs).2) (fin eo)
  | _ => exact nf (an hc).2
theorem isSub {t : Expr} {z : Expr × Expr} (h : sub? t = some z) : ∃ q, t = .Subscript z.1 z.2 q := by
  cases t with
  | Subscript a c q => exact ⟨q, (Option.some.inj h) ▸ rfl⟩
  | _ => exact nn h
theorem sx_delete (CO : CtxOk prog w hb mg C m) (RO : RecOk prog w hb R m) (hA : AOk A m) (X : At hb env sc φ κ ρ σ s) {t : Expr} {pos : Pos} {y : Fl × Rho × Sto} {Q : Flow → Shared → Prop} (e : delSt C R b sc ρ σ t = some y)
    (h : ∀ s' σ', (Fl.next, ρ, σ') = y → Step κ b φ s φ s' → At hb env sc φ κ ρ σ' s' → Q .next s') : wpAny (model prog w) A (exec (.Delete [t] pos) env) Q E s := by
  refine bk e fun z ez e => bk e fun ov eo e => bk e fun iv ei e => bk e fun k ek e => bk e fun d ed e => gk e fun hb0 e => mk' e fun σ' eh e3 => ?_
  obtain rfl : b = 0 := eq_of_beq hb0
  obtain ⟨q, rfl⟩ : ∃ q, t = .Subscript z.1 z.2 q := isSub ez
  refine wpAny_Delete (wpAny_deleteEach_cons ?_)
  show wpAny _ _ (do let ov ← eval z.1 env; let iv ← holding [ov] (eval z.2 env); standAt q; holding [ov, iv] (delItem ov iv); release [ov, iv] []) _ _ _
  refine wpAny_bind (RO.e sc ρ σ z.1 _ eo A φ env s _ E hA X.O X.V fun uo s₁ k₁ r₁ => wpAny_bind (wpAny_holding (RO.e sc ρ σ z.2 _ ei A φ env s₁ _ E hA (X.O.kp k₁) (X.V.kp k₁) fun ui s₂ k₂ r₂ => wpAny_bind (wpAny_standAt (wpAny_bind (wpAny_holding ?_))))))
  have K := k₁.trans k₂
  have X2 := X.kp K
  cases rHdr (r₁.keep (k₂.kb φ.all)) ek with
  | mk a b z1 z2 => exact CO.hdel A φ σ _ k ui d σ' s₂ _ E hA X2.O (.hdr z1 z2) (rD r₂ ed) eh fun s' kk O' => wpAny_release (wpAny_deleteEach_nil (h s' σ' e3 (Step.tr K.step X2 (kps_step kk)) (kps_at X2 kk O')))
theorem ApZ {φ : Ap} {z : Nat} : ∀ a ∈ (⟨φ.ix.take z, φ.pr⟩ : Ap).all, a ∈ φ.all := fun a m => by
  rcases List.mem_append.mp m with m | m
  · exact List.mem_append_left _ (List.mem_of_mem_take m)
  · exact List.mem_append_right _ m
theorem sto_take (O : StoOk hb φ σ s.heap) : StoOk hb ⟨φ.ix.take z, φ.pr⟩ (σ.take z) s.heap := by
  refine ⟨O.base, fun a m => O.high a (ApZ a m), fun a m => O.low a (ApZ a m), O.nd.sublist (List.take_sublist _ _), fun a m => O.disj a (List.mem_of_mem_take m), by simp [O.len], fun i l e => ?_⟩
  rw [List.getElem?_take] at e
  split at e
  · rename_i hi
    obtain ⟨a, vs, e1, e2, e3⟩ := O.sto i l e
    exact ⟨a, vs, by show (φ.ix.take z)[i]? = _; rw [List.getElem?_take, if_pos hi]; exact e1, e2, e3.fewer ApZ⟩
  · cases e
theorem take_at {l : List Addr} {i : Nat} (hz : ¬ z ≤ i) : (l.take z)[i]? = l[i]? := by rw [List.getElem?_take, if_pos (Nat.not_le.mp hz)]
theorem take_notin (hn : φ.ix.Nodup) {a : Addr} {i : Nat} (q : φ.ix[i]? = some a) (hz : z ≤ i) : a ∉ φ.ix.take z := fun m => by
  obtain ⟨j, hj⟩ := List.mem_iff_getElem?.mp m
  rw [List.getElem?_take] at hj
  split at hj
  · obtain ⟨h1, g1⟩ := List.getElem?_eq_some_iff.mp q
    obtain ⟨h2, g2⟩ := List.getElem?_eq_some_iff.mp hj
    have := (List.getElem_inj hn).mp (g1.trans g2.symm)
    omega
  · exact nn hj
theorem rep_frozen (O : StoOk hb φ σ s.heap) {u : Value} {v : V} (r : RepV φ s.heap u v) : RepV ⟨φ.ix.take z, φ.pr⟩ s.heap u (frozen σ z v) := by
  cases r with
  | p x => exact .p (x.fewer ApZ)
  | @own a i q =>
    show RepV _ _ _ (if z ≤ i then ((σ[i]?).map fun l => V.p (.list l)).getD .any else .own i)
    by_cases hz : z ≤ i
    · rw [if_pos hz]
      cases hl : σ[i]? with
      | none => exact .any _
      | some l =>
        obtain ⟨a', vs, e1, e2, e3⟩ := O.sto i l hl
        obtain rfl := Option.some.inj (q.symm.trans e1)
        exact .p (.list (fun m => (List.mem_append.mp m).elim (take_notin O.nd q hz) (O.disj _ (List.mem_of_getElem? q))) e2.isList (e3.fewer ApZ))
    · rw [if_neg hz]
      exact .own ((take_at hz).trans q)
  | @hdr a b i q x =>
    show RepV _ _ _ (if z ≤ i then .any else .hdr i)
    by_cases hz : z ≤ i
    · rw [if_pos hz]; exact .any _
    · rw [if_neg hz]; exact .hdr ((take_at hz).trans q) (x.turn (.fewer ApZ))
  | pat k => exact .pat k
  | mat x => exact .mat (x.turn (.fewer ApZ))
  | typ s => exact .typ s
  | any => exact .any _
  | rng n x y z => exact .rng (fun m => n (ApZ _ m)) x y z
theorem lookup_map (f : V → V) (x : Str) : ∀ ρ : Rho, (ρ.map fun p => (p.1, f p.2)).lookup x = (ρ.lookup x).map f
  | [] => rfl
  | (y, v) :: r => by
    simp only [List.map_cons, List.lookup_cons]
    cases x == y with
    | true => rfl
    | false => exact lookup_map f x r
theorem sx_return (RO : RecOk prog w hb R m) (hA : AOk A m) (X : At hb env sc φ κ ρ σ s) {x : Expr} {pos : Pos} {v : V} {Q : Flow → Shared → Prop} (e : R.e sc (ρ.map fun p => (p.1, frozen σ z p.2)) (σ.take z) x = some v)
    (h : ∀ u s', Kp s s' → RepV ⟨φ.ix.take z, φ.pr⟩ s'.heap u v → Q (.ret u) s') : wpAny (model prog w) A (exec (.Return (some x) pos) env) Q E s := by
  refine wpAny_Return_some (RO.e sc _ _ x v e A ⟨φ.ix.take z, φ.pr⟩ env s _ E hA (sto_take X.O) ⟨X.V.kind, X.V.glob, X.V.blt, X.V.sc, fun y v' hy hd => ?_⟩ h)
  rw [lookup_map] at hy
  obtain ⟨v0, e0, rfl⟩ := Option.map_eq_some_iff.mp hy
  obtain ⟨u, a, b⟩ := X.V.vars y v0 e0 hd
  exact ⟨u, a, rep_frozen X.O b⟩
inductive LI (prog : Program) (w : World) (hb : Heap) (env : Env) (sc : Sc) (φ : Ap) (κ : List Addr) (b z : Nat) (s : Shared) (G : Rho → Sto → Prop) (t : Shared) : Prop
  | mk (φ1 : Ap) (ρ1 : Rho) (σ1 : Sto) (st : Step κ b φ s φ1 t) (X : At hb env sc φ1 κ ρ1 σ1 t) (hz : z ≤ σ1.length) (e : G ρ1 σ1)
theorem while_body {S : Sc → Rho → Sto → Stmt → Option (Fl × Rho × Sto)} (hS : SX prog w hb S b z m) (hA : AOk A m) {φ1 : Ap} {s1 : Shared} (st1 : Step κ b φ s φ1 s1) (X1 : At hb env sc φ1 κ ρ σ s1) (hz : z ≤ σ.length) {bd : List Stmt} {y : Fl × Rho × Sto} {Q : Flow → Shared → Prop} (e1 : body (S sc) bd ρ σ = some y)
    (h : ∀ f φ' s', Step κ b φ s φ' s' → At hb env sc φ' κ y.2.1 y.2.2 s' → z ≤ y.2.2.length → FlR φ' z s'.heap f y.1 → Q f s') : wpAny (model prog w) A (execs bd env) Q E s1 := by
  exact body_run hS hA e1 X1 hz fun f φ3 s3 st3 X3 hf => h f φ3 s3 (st1.tr X1 st3) X3 (Nat.le_trans hz (X1.len_le st3 X3)) hf
theorem sx_while {S : Sc → Rho → Sto → Stmt → Option (Fl × Rho × Sto)} (hS : SX prog w hb S b z m) (RO : RecOk prog w hb R m) (hA : AOk A m) (X : At hb env sc φ κ ρ σ s) (hz : z ≤ σ.length) {test : Expr} {bd : List Stmt} {pos : Pos} {fl : Fl} {ρ' : Rho} {σ' : Sto} {n : Nat} {Q : Flow → Shared → Prop}
    (e : whileGo (fun ρ σ => R.t sc ρ σ test) (fun ρ σ => body (S sc) bd ρ σ) n ρ σ = some (fl, ρ', σ')) (h : ∀ f φ' s', Step κ b φ s φ' s' → At hb env sc φ' κ ρ' σ' s' → FlR φ' z s'.heap f fl → Q f s') : wpAny (model prog w) A (exec (.While test bd [] pos) env) Q E s := by
  refine wpAny_While (codeAny_whileLoop (fun k => LI prog w hb env sc φ κ b z s fun ρ1 σ1 => whileGo (fun ρ σ => R.t sc ρ σ test) (fun ρ σ => body (S sc) bd ρ σ) k ρ1 σ1 = some (fl, ρ', σ')) ?_ n ⟨φ, ρ, σ, Step.refl κ b φ s, X, hz, e⟩)
  rintro k s1 ⟨φ1, ρ1, σ1, st1, X1, hz1, e1⟩
  cases k with
  | zero => exact nn e1
  | succ k =>
    refine bk e1 fun c ht e1 => RO.t sc ρ1 σ1 test c ht A φ1 env s1 _ _ hA X1.O X1.V fun s2 k2 => ?_
    cases c with
    | false =>
      rw [if_neg Bool.false_ne_true]
      exact wpAny_execs_nil (h_next h (Option.some.inj e1) φ1 s2 (st1.tr X1 k2.step) (X1.kp k2))
    | true =>
      rw [if_pos rfl]
      refine bk e1 fun y eb e1 => while_body hS hA (st1.tr X1 k2.step) (X1.kp k2) hz1 eb fun f φ3 s3 st3 X3 hz3 hf => ?_
      refine loop_k e1 (fun hn e1 => ?_) (fun hn er => ?_) fun v hn er => ?_
      · obtain rfl : f = .next := fl_at hn hf
        exact ⟨k, Nat.lt_succ_self k, φ3, y.2.1, y.2.2, st3, X3, hz3, e1⟩
      · obtain rfl : f = .brk := fl_at hn hf
        exact h_next h er φ3 s3 st3 X3
      · have hf := fl_at hn hf
        have hq := h_ret h er f φ3 s3 st3 X3 hf
        obtain ⟨u, hf', _⟩ := hf; subst hf'; exact hq
end
-- S23
section
variable {prog : Program} {w : World} {hb : Heap} {mg mb : Str → Option Value} {C : Ctx} {R : Rec} {m b z : Nat} {sc : Sc} {ρ : Rho} {σ : Sto} {A : Around} {φ : Ap} {κ : List Addr} {env : Env} {s : Shared} {E : Value → Shared → Prop}
theorem Step.repr {ix ix' p q : List Addr} {s' : Shared} (x : Step κ b ⟨ix, p⟩ s ⟨ix', p⟩ s') : Step κ b ⟨ix, q⟩ s ⟨ix', q⟩ s' := ⟨rfl, x.ix, x.sh, x.keep⟩
theorem At.fewer {ψ : Ap} (X : At hb env sc ψ κ ρ σ s) (hi : φ.ix = ψ.ix) (hp : ∀ a ∈ φ.pr, a ∈ ψ.pr) (hF : FnFr env φ κ) : At hb env sc φ κ ρ σ s := ⟨X.O.fewer hi hp, X.V.fewer hi hp, X.F, hF⟩
section
variable {ρ1 : Rho} {σ1 : Sto} {ix1 : List Addr} {I : Addr} {s1 sa sb : Shared} {φ2 : Ap}
theorem for_tr (x : Step κ b φ s1 ⟨ix1, φ.pr⟩ sa) (Y : At hb env sc ⟨ix1, I :: φ.pr⟩ κ ρ1 σ1 sa) (y : Step κ b ⟨ix1, I :: φ.pr⟩ sa φ2 sb) : Step κ b φ s1 ⟨φ2.ix, φ.pr⟩ sb := by
  have y' : Step κ b ⟨ix1, φ.pr⟩ sa ⟨φ2.ix, φ.pr⟩ sb := ⟨rfl, y.ix, y.sh, y.keep⟩
  refine Step.trans (fun a m => Y.O.low a (List.mem_append_right _ (Y.frS.pr a m))) (fun a ma => Y.O.low a (List.mem_append_left _ ?_)) x y'
  obtain ⟨new, e1, _⟩ := x.ix
  exact (e1 : ix1 = _) ▸ List.mem_append_left _ ma
theorem for_keep {h₁ : Heap} {tk₁ : Nat} (hI : s1.heap.get? I = none) (x : Step κ b φ s1 ⟨ix1, φ.pr⟩ sa) (hk : ∀ b o, b ∉ [I] → sa.heap.get? b = some o → h₁.get? b = some o) : Step κ b φ s1 ⟨ix1, φ.pr⟩ { sa with heap := h₁, toks := tk₁ } := by
  refine ⟨rfl, x.ix, ?_, fun a o ha hb eo => hk a o (fun q => no_get eo (List.mem_singleton.mp q ▸ hI)) (x.keep a o ha hb eo)⟩
  obtain ⟨hh, tt, rfl⟩ := x.sh
  exact ⟨h₁, tk₁, rfl⟩
theorem for_turn {h₁ : Heap} {tk₁ : Nat} (hIκ : I ∉ κ) (Y : At hb env sc ⟨ix1, I :: φ.pr⟩ κ ρ1 σ1 sa) (hk : ∀ b o, b ∉ [I] → sa.heap.get? b = some o → h₁.get? b = some o) (hex : ∃ o, h₁.get? I = some o) : At hb env sc ⟨ix1, I :: φ.pr⟩ κ ρ1 σ1 { sa with heap := h₁, toks := tk₁ } := by
  have hk' : ∀ b o, b ≠ I → sa.heap.get? b = some o → h₁.get? b = some o := fun b o hb => hk b o fun q => hb (List.mem_singleton.mp q)
  have kκ : ∀ a o, a ∈ κ → sa.heap.get? a = some o → h₁.get? a = some o := fun a o ma eo => hk' a o (fun q => hIκ (q ▸ ma)) eo
  refine ⟨?_, Y.V.keepKb Y.frS kκ fun a o ha eo => hk' a o (fun q => ha (q ▸ List.mem_append_right _ List.mem_cons_self)) eo, Y.F.keepκ kκ, Y.frS⟩
  exact Y.O.pk (κ := [I]) ⟨h₁, tk₁, rfl, hk⟩ (fun a ma => List.mem_singleton.mp ma ▸ List.mem_cons_self) fun a ma => List.mem_singleton.mp ma ▸ hex
theorem for_fp (X1 : At hb env sc φ κ ρ σ s1) (hIκ : I ∉ κ) {v : V} (hst : still b v = true) {c : Addr} (q : c = I ∨ ((c ∉ φ.all ∨ ∃ i, v = .own i ∧ φ.ix[i]? = some c) ∧ ∃ o, s1.heap.get? c = some o)) (x : Step κ b φ s1 ⟨ix1, φ.pr⟩ sa) (Y : At hb env sc ⟨ix1, I :: φ.pr⟩ κ ρ1 σ1 sa) (y : Step κ b ⟨ix1, I :: φ.pr⟩ sa φ2 sb) {o : Obj} (eo : sa.heap.get? c = some o) : sb.heap.get? c = some o := by
  rcases q with rfl | ⟨q, o', eo'⟩
  · exact y.keep c o hIκ (fun q => Y.O.disj c (List.mem_of_mem_drop q) List.mem_cons_self) eo
  · have hcκ : c ∉ κ := fun ma => q.elim (fun q => q (List.mem_append_right _ (X1.frS.pr c ma))) fun ⟨i, _, q⟩ => X1.O.disj c (List.mem_of_getElem? q) (X1.frS.pr c ma)
    refine y.keep c o hcκ (fun md => ?_) eo
    obtain ⟨new, e1, e2⟩ := x.ix
    have md : c ∈ ix1.drop b := md
    rw [show ix1 = φ.ix ++ new from e1, List.drop_append] at md
    rcases List.mem_append.mp md with md | md
    · rcases q with q | ⟨i, rfl, q⟩
      · exact q (List.mem_append_left _ (List.mem_of_mem_drop md))
      · have hib : i < b := of_decide_eq_true hst
        obtain ⟨j, hj⟩ := List.mem_iff_getElem?.mp md
        rw [List.getElem?_drop] at hj
        obtain ⟨h1, g1⟩ := List.getElem?_eq_some_iff.mp q
        obtain ⟨h2, g2⟩ := List.getElem?_eq_some_iff.mp hj
        have := (List.getElem_inj X1.O.nd).mp (g1.trans g2.symm)
        omega
    · exact no_get eo' (e2 c (List.mem_of_mem_drop md))
theorem for_new (hI : s1.heap.get? I = none) (x : Step κ b φ s1 ⟨ix1, φ.pr⟩ sa) : ∀ a ∈ (⟨ix1, I :: φ.pr⟩ : Ap).all, a ∈ φ.all ∨ s1.heap.get? a = none := fun a mx => by
  obtain ⟨new, q1, q2⟩ := x.ix
  have q1 : ix1 = φ.ix ++ new := q1
  rcases List.mem_append.mp mx with mx | mx
  · rcases List.mem_append.mp (q1 ▸ mx : a ∈ φ.ix ++ new) with mx | mx
    · exact .inl (List.mem_append_left _ mx)
    · exact .inr (q2 a mx)
  · rcases List.mem_cons.mp mx with q | mx
    · exact .inr (q ▸ hI)
    · exact .inl (List.mem_append_right _ mx)
theorem for_kb (X1 : At hb env sc φ κ ρ σ s1) (hI : s1.heap.get? I = none) (x : Step κ b φ s1 ⟨ix1, φ.pr⟩ sa) {h₁ : Heap} (hk : ∀ b o, b ∉ [I] → sa.heap.get? b = some o → h₁.get? b = some o) : Kb (⟨ix1, I :: φ.pr⟩ : Ap).all s1.heap h₁ := fun a o ha eo => by
  refine hk a o (fun q => no_get eo (List.mem_singleton.mp q ▸ hI)) (x.keep a o (fun ma => ha (List.mem_append_right _ (List.mem_cons_of_mem _ (X1.frS.pr a ma)))) (fun md => ha (List.mem_append_left _ ?_)) eo)
  obtain ⟨new, q1, _⟩ := x.ix
  exact (q1 : ix1 = _) ▸ List.mem_append_left _ (List.mem_of_mem_drop md)
theorem fl_out {f : Flow} {fl : Fl} {h : Heap} (hpr : φ2.pr = I :: φ.pr) (x : FlR φ2 z h f fl) : FlR ⟨φ2.ix, φ.pr⟩ z h f fl := by
  cases fl with
  | next => exact x
  | brk => exact x
  | ret v =>
    obtain ⟨u, q1, q2⟩ := x
    exact ⟨u, q1, RepV.fewer (φ := ⟨φ2.ix.take z, φ2.pr⟩) (ψ := ⟨φ2.ix.take z, φ.pr⟩) rfl (fun a ma => hpr ▸ List.mem_cons_of_mem _ ma) q2⟩
end
inductive FI (hb : Heap) (env : Env) (sc : Sc) (φ : Ap) (κ : List Addr) (b z : Nat) (s1 : Shared) (I : Addr) (n : Nat) (St : Nat → Heap → Prop) (G : Nat → Rho → Sto → Prop) (k : Nat) (t : Shared) : Prop
  | mk (i : Nat) (ix1 : List Addr) (ρ1 : Rho) (σ1 : Sto) (hk : k = n + 1 - i) (hi : i ≤ n) (st : Step κ b φ s1 ⟨ix1, φ.pr⟩ t) (X : At hb env sc ⟨ix1, I :: φ.pr⟩ κ ρ1 σ1 t) (hz : z ≤ σ1.length) (hSt : St i t.heap) (e : G i ρ1 σ1)
theorem for_item {S : Sc → Rho → Sto → Stmt → Option (Fl × Rho × Sto)} (hS : SX prog w hb S b z m) (hA : AOk A m) {t : Expr} {bd : List Stmt} {fl : Fl} {ρ' : Rho} {σ' : Sto} {l : List D} {Q : Flow → Shared → Prop} {s1 sa : Shared} {I : Addr} {St : Nat → Heap → Prop} {ix1 : List Addr} {ρ1 : Rho} {σ1 : Sto} {i : Nat} {d : D} {val : Value}
    (X1 : At hb env sc φ κ ρ σ s1) (hx : (targetNames t).all (canStore sc) = true) (frame : ∀ j {ix1 : List Addr} {ρ1 : Rho} {σ1 : Sto} {sa sb : Shared} {φ2 : Ap}, Step κ b φ s1 ⟨ix1, φ.pr⟩ sa → At hb env sc ⟨ix1, I :: φ.pr⟩ κ ρ1 σ1 sa → Step κ b ⟨ix1, I :: φ.pr⟩ sa φ2 sb → St j sa.heap → St j sb.heap)
    (h : ∀ f φ' s', Step κ b φ s1 φ' s' → At hb env sc φ' κ ρ' σ' s' → FlR φ' z s'.heap f fl → Q f s') (hlt : i < l.length) (ed : l[i]? = some d) (e1 : forGo (fun ρ σ => body (S sc) bd ρ σ) (fun d ρ => bindT t (.p d) ρ) (l.drop i) ρ1 σ1 = some (fl, ρ', σ'))
    (st : Step κ b φ s1 ⟨ix1, φ.pr⟩ sa) (Y : At hb env sc ⟨ix1, I :: φ.pr⟩ κ ρ1 σ1 sa) (hz : z ≤ σ1.length) (hSt : St (i + 1) sa.heap) (rd : RepD (⟨ix1, I :: φ.pr⟩ : Ap).all sa.heap val d)
    {K : Flow → Shared → Prop} (kn : ∀ s3, (∃ k, k < l.length + 1 - i ∧ FI hb env sc φ κ b z s1 I l.length St (fun i ρ1 σ1 => forGo (fun ρ σ => body (S sc) bd ρ σ) (fun d ρ => bindT t (.p d) ρ) (l.drop i) ρ1 σ1 = some (fl, ρ', σ')) k s3) → K .next s3) (kb : ∀ s3, Q .next s3 → K .brk s3) (kr : ∀ u s3, Q (.ret u) s3 → K (.ret u) s3) :
    wpAny (model prog w) A (assign t env val) (fun _ s2 => wpAny (model prog w) A (execs bd env) K E s2) E sa := by
  rw [drop_at_len ed] at e1
  refine bk e1 fun ρ2 eb e1 => bk e1 fun y ebd e1 => target_ok hA.1 Y.O Y.V Y.frS.pr Y.F eb hx (.p rd) fun s3 pk3 O3 V3 F3 => ?_
  have Y3 : At hb env sc ⟨ix1, I :: φ.pr⟩ κ ρ2 σ1 s3 := ⟨O3, V3, F3, Y.frS⟩
  have st3 := for_tr st Y pk3.step
  have hSt3 := frame _ st Y pk3.step hSt
  refine body_run hS hA (show body (S sc) bd ρ2 σ1 = some (y.1, y.2.1, y.2.2) from ebd) Y3 hz fun f φ4 s4 st4 Y4 hf => ?_
  have hpr : φ4.pr = I :: φ.pr := st4.pr
  have st5 := for_tr st3 Y3 st4
  have Y5 : At hb env sc ⟨φ4.ix, φ.pr⟩ κ y.2.1 y.2.2 s4 := Y4.fewer rfl (fun a ma => hpr ▸ List.mem_cons_of_mem _ ma) (X1.frS.pr_eq rfl)
  refine loop_k e1 (fun hn e1 => ?_) (fun hn er => ?_) fun v hn er => ?_
  · obtain rfl : f = .next := fl_at hn hf
    exact kn _ ⟨l.length + 1 - (i + 1), Nat.sub_lt_sub_left (Nat.lt_succ_of_lt hlt) (Nat.lt_succ_self i), i + 1, φ4.ix, y.2.1, y.2.2, rfl, hlt, st5, (show (⟨φ4.ix, I :: φ.pr⟩ : Ap) = φ4 by rw [← hpr]) ▸ Y4, Nat.le_trans hz (Y3.len_le st4 Y4), frame _ st3 Y3 st4 hSt3, e1⟩
  · obtain rfl : f = .brk := fl_at hn hf
    exact kb _ (h_next h er _ s4 st5 Y5)
  · have hq := h_ret h er f _ s4 st5 Y5 (fl_out hpr (fl_at hn hf))
    obtain ⟨u, hf', _⟩ := fl_at hn hf; subst hf'; exact kr _ _ hq
theorem sx_for {S : Sc → Rho → Sto → Stmt → Option (Fl × Rho × Sto)} (hS : SX prog w hb S b z m) (RO : RecOk prog w hb R m) (hA : AOk A m) (X : At hb env sc φ κ ρ σ s) (hz : z ≤ σ.length) {t iter : Expr} {bd : List Stmt} {pos : Pos} {fl : Fl} {ρ' : Rho} {σ' : Sto} {v : V} {l : List D} {Q : Flow → Shared → Prop}
    (ei : R.e sc ρ σ iter = some v) (el : items? σ v = some l) (hx : (targetNames t).all (canStore sc) = true) (hst : still b v = true)
    (e : forGo (fun ρ σ => body (S sc) bd ρ σ) (fun d ρ => bindT t (.p d) ρ) l ρ σ = some (fl, ρ', σ')) (h : ∀ f φ' s', Step κ b φ s φ' s' → At hb env sc φ' κ ρ' σ' s' → FlR φ' z s'.heap f fl → Q f s') : wpAny (model prog w) A (exec (.For t iter bd [] pos) env) Q E s := by
  refine wpAny_For (RO.e sc ρ σ iter v ei A φ env s _ E hA X.O X.V fun u s1 k1 r1 => ?_) (folded_free RO.s ei env)
  have X1 := X.kp k1
  refine (walk_items hA.1 X1.O r1 el).run _ _ fun I s2 fp n P St hn k2 hI W st0 hfp hitem hIe href => ?_
  subst hn
  have hIκ := X1.notκ hI
  have h1 : ∀ f φ' s', Step κ b φ s1 φ' s' → At hb env sc φ' κ ρ' σ' s' → FlR φ' z s'.heap f fl → Q f s' := fun f φ' s' st => h f φ' s' (Step.tr k1.step X1 st)
  have frame : ∀ j {ix1 : List Addr} {ρ1 : Rho} {σ1 : Sto} {sa sb : Shared} {φ2 : Ap}, Step κ b φ s1 ⟨ix1, φ.pr⟩ sa → At hb env sc ⟨ix1, I :: φ.pr⟩ κ ρ1 σ1 sa → Step κ b ⟨ix1, I :: φ.pr⟩ sa φ2 sb → St j sa.heap → St j sb.heap :=
    fun j _ _ _ _ _ _ x Y y hst' => W.frame j _ _ hst' fun c hc o eo => for_fp X1 hIκ hst (hfp c hc) x Y y eo
  refine codeAny_forLoop_any (FI hb env sc φ κ b z s1 I l.length St fun i ρ1 σ1 => forGo (fun ρ σ => body (S sc) bd ρ σ) (fun d ρ => bindT t (.p d) ρ) (l.drop i) ρ1 σ1 = some (fl, ρ', σ')) (fun k s' Xi => ?_) (l.length + 1) ⟨0, φ.ix, ρ, σ, rfl, Nat.zero_le _, k2.step, grow1 X1 k2 hI (hIe 0 _ st0), hz, st0, e⟩
  cases Xi with
  | mk i ix1 ρ1 σ1 hk hi st1 Y1 hz1 hSt e1 =>
    subst hk
    by_cases hlt : i < l.length
    · refine W.item i s' _ _ hlt hSt fun val h₁ tk₁ hP hSt1 hk₁ => ?_
      obtain ⟨d, ed, rd⟩ := hitem i val hlt hP _ h₁ (for_new hI st1) (for_kb X1 hI st1 hk₁)
      exact letOwned_my ((href i val h₁ hP hSt1).imp id fun ⟨o, nn, a, b, c⟩ => ⟨I, o, nn, rfl, a, b, c⟩) (for_item hS hA X1 hx frame h1 hlt ed e1 (for_keep hI st1 hk₁) (for_turn hIκ Y1 hk₁ (hIe _ _ hSt1)) hz1 hSt1 rd (fun _ x => x) (fun _ x => x) fun _ _ x => x)
    · obtain rfl : i = l.length := Nat.le_antisymm hi (Nat.not_lt.mp hlt)
      refine W.done s' _ _ hSt fun h₁ tk₁ hk₁ => ?_
      rw [List.drop_length] at e1
      exact wpAny_execs_nil (h_next h1 (Option.some.inj e1) ⟨ix1, φ.pr⟩ _ (for_keep hI st1 hk₁) (drop_at (φ := ⟨ix1, φ.pr⟩) Y1 (X.frS.pr_eq rfl) hIκ (X1.notpr hI) fun b o hb => hk₁ b o fun q => hb (List.mem_singleton.mp q)))
end
section
variable {prog : Program} {w : World} {hb : Heap} {mg mb : Str → Option Value} {C : Ctx} {R : Rec} {m b z : Nat}
section
variable {sc : Sc} {ρ : Rho} {σ : Sto} {A : Around} {φ : Ap} {κ : List Addr} {env : Env} {s : Shared} {E : Value → Shared → Prop} {fl : Fl} {ρ' : Rho} {σ' : Sto} {Q : Flow → Shared → Prop}
theorem sx_expr (B : Base hb mg mb) (CO : CtxOk prog w hb mg C m) (RO : RecOk prog w hb R m) (hA : AOk A m) (X : At hb env sc φ κ ρ σ s) {x : Expr} {pos : Pos} (e : exprS C R b sc ρ σ x = some (fl, ρ', σ'))
    (h : ∀ f φ' s', Step κ b φ s φ' s' → At hb env sc φ' κ ρ' σ' s' → FlR φ' z s'.heap f fl → Q f s') : wpAny (model prog w) A (exec (.Expr x pos) env) Q E s := by
  refine bk e fun c ec e => bk e fun a ea e => ?_
  cases hk : c.2.2.1.isEmpty with
  | true =>
    rw [hk] at e
    refine bk e fun y ey e => ?_
    rw [isCall ec, isAttr ea, one_some ey, List.isEmpty_iff.mp hk]
    exact sx_append B CO RO hA X e fun s' σ'' er st X' => h_next h er φ s' st X'
  | false =>
    rw [hk] at e
    refine mk' e fun u0 ev e3 => wpAny_Expr_any ?_ (by unfold interactive; rw [X.V.kind]; rfl) (hs := by rw [isCall ec]; rfl)
    exact RO.e sc ρ σ _ _ ev A φ env s _ E hA X.O X.V fun u s' k r => h_next h e3 φ s' (Kp.step k) (X.kp k)
theorem sx_try {S : Sc → Rho → Sto → Stmt → Option (Fl × Rho × Sto)} (hS : SX prog w hb S b z m) (hA : AOk A m) (X : At hb env sc φ κ ρ σ s) (hz : z ≤ σ.length) {bd orelse : List Stmt} {hs : List ExceptHandler} {pos : Pos} (e : (body (S sc) bd ρ σ).bind tryS = some (fl, ρ', σ'))
    (h : ∀ f φ' s', Step κ b φ s φ' s' → At hb env sc φ' κ ρ' σ' s' → FlR φ' z s'.heap f fl → Q f s') : wpAny (model prog w) A (exec (.Try bd hs orelse [] pos) env) Q E s := by
  refine bk e fun y eb e => ?_
  obtain ⟨f1, ρ1, σ1⟩ := y
  cases f1 with
  | next => exact nn e
  | brk => exact nn e
  | ret v =>
    have h := h_ret h (Option.some.inj e)
    rw [arm_exec_Try]
    refine wpAny_bind (wpAny_standAt ?_)
    unfold tryStmt
    rw [if_pos (by rfl)]
    have main : wpAny (model prog w) A (execs bd env).attempt (fun r s' => ∃ u, r = .ok (.ret u) ∧ Q (.ret u) s') E s := wpAny_attempt (body_run hS hA eb X hz fun f φ' s' st' X' hf => by
      have hq := h f φ' s' st' X' hf
      obtain ⟨u, rfl, _⟩ := hf
      exact ⟨u, rfl, hq⟩)
    first
      | (refine wpAny_bind (wpAny_bind (wpAny_mono main (fun r s' hr => ?_) fun _ _ x => x))
         obtain ⟨u, rfl, hq⟩ := hr
         exact wpAny_pure (wpAny_pure hq))
      | (refine wpAny_bind (wpAny_mono main (fun r s' hr => ?_) fun _ _ x => x)
         obtain ⟨u, rfl, hq⟩ := hr
         exact wpAny_pure hq)
theorem sx_if {S : Sc → Rho → Sto → Stmt → Option (Fl × Rho × Sto)} (hS : SX prog w hb S b z m) (RO : RecOk prog w hb R m) (hA : AOk A m) (X : At hb env sc φ κ ρ σ s) (hz : z ≤ σ.length) {test : Expr} {bd orelse : List Stmt} {pos : Pos} (e : ((R.t sc ρ σ test).bind fun c => cond c (body (S sc) bd ρ σ) (body (S sc) orelse ρ σ)) = some (fl, ρ', σ'))
    (h : ∀ f φ' s', Step κ b φ s φ' s' → At hb env sc φ' κ ρ' σ' s' → FlR φ' z s'.heap f fl → Q f s') : wpAny (model prog w) A (exec (.If test bd orelse pos) env) Q E s := by
  refine bk e fun c ht e => wpAny_If (RO.t sc ρ σ test c ht A φ env s _ E hA X.O X.V fun s1 k1 => ?_)
  have X1 := X.kp k1
  cases c with
  | true => rw [if_pos rfl]; exact body_run hS hA e X1 hz fun f φ' s' st' X' hf => h f φ' s' (Step.tr k1.step X1 st') X' hf
  | false => rw [if_neg Bool.false_ne_true]; exact body_run hS hA e X1 hz fun f φ' s' st' X' hf => h f φ' s' (Step.tr k1.step X1 st') X' hf
end
theorem sx_step {S : Sc → Rho → Sto → Stmt → Option (Fl × Rho × Sto)} {mu : List Str} (B : Base hb mg mb) (CO : CtxOk prog w hb mg C m) (RO : RecOk prog w hb R m) (hS : SX prog w hb S b z m) : SX prog w hb (stepS C R mu b z S) b z m := by
  intro sc ρ σ st fl ρ' σ' e A φ κ env s Q E hA X hz h
  cases st with
  | Expr x pos => exact sx_expr B CO RO hA X e h
  | Assign ts value pos => exact bk e fun t et e => one_some et ▸ sx_Assign RO B CO hA X e h
  | AugAssign t op value pos =>
    refine bk e fun x ex e => ?_
    obtain ⟨q, rfl⟩ := isName ex
    exact sx_aug RO hA X e fun s' v er st' X' => h_next h er φ s' st' X'
  | Delete ts pos => exact bk e fun t et e => one_some et ▸ sx_delete CO RO hA X e fun s' σ' er st' X' => h_next h er φ s' st' X'
  | For t iter bd orelse pos => exact gk e fun ho e => bk e fun v ei e => bk e fun l el e => gk e fun hc e => List.isEmpty_iff.mp ho ▸ sx_for hS RO hA X hz ei el (an (an hc).1).1 (an (an hc).1).2 e h
  | While test bd orelse pos => exact gk e fun ho e => List.isEmpty_iff.mp ho ▸ sx_while hS RO hA X hz e h
  | If test bd orelse pos => exact sx_if hS RO hA X hz e h
  | Try bd handlers orelse final pos => exact gk e fun ho e => List.isEmpty_iff.mp ho ▸ sx_try hS hA X hz e h
  | Return x pos =>
    refine bk e fun y ey e => ?_
    subst ey
    exact mk' e fun v ev e3 => sx_return RO hA X ev fun u s' k r => h_ret h e3 (.ret u) φ s' k.step (X.kp k) ⟨u, rfl, r⟩
  | Break pos => exact wpAny_bind (wpAny_standAt (wpAny_pure (h_brk h (Option.some.inj e) φ s (Step.refl κ b φ s) X)))
  | _ => exact nn e
theorem ex_ok (B : Base hb mg mb) (PR : Prims prog w hb) (CO : CtxOk prog w hb mg C m) (hm : 10 ≤ m) (n : Nat) (mu : List Str) (b z : Nat) : ∀ k, SX prog w hb (ex C (n + 1) mu b z k) b z m
  | 0 => fun _ _ _ _ _ _ _ e => nn e
  | k + 1 => sx_step B CO (rec_ok B PR CO hm n) (ex_ok B PR CO hm n mu b z k)
end
-- S24
structure FnIs (hb : Heap) (f : Addr) (fn : Fn) (fd : FuncData) : Prop where
  at_ : ∃ o, hb.get? f = some o ∧ o.data = .func fd
  body : fd.body = .stmts fn.bd
  names : fd.scope.names = fn.sc
  kind : fd.scope.kind = .function
  co : fd.scope.isCoroutine = false
  gen : fd.scope.isGenerator = false
  clo : fd.closure = []
  glob : fd.globals = mainGlobals
  blt : fd.builtins = builtinsNs
  code : hb.CodeRec fd.code fd.qualname
  par : ∀ x ∈ fn.params, (fn.sc.lookup x = some .local ∨ fn.sc.lookup x = some .cell) ∧ (x == ("__classdict__" : Str)) = false
  nd : fn.params.Nodup
theorem bindL_other (k : Str → Option NameKind) (l : List (Str × Value)) : ∀ (m : Str → Option Value) (x : Str), x ∉ l.map (·.1) → bindL k l m x = m x := by
  induction l with
  | nil => intro m x _; rfl
  | cons p r ih =>
    intro m x h
    refine (ih _ x fun q => h (List.mem_cons_of_mem _ q)).trans ?_
    split
    · exact if_neg fun (q : x = p.1) => h (by rw [q]; exact List.mem_cons_self)
    · rfl
theorem bindC_other (k : Str → Option NameKind) (l : List (Str × Value)) : ∀ (m : Str → Option Value) (x : Str), x ∉ l.map (·.1) → bindC k l m x = m x := by
  induction l with
  | nil => intro m x _; rfl
  | cons p r ih =>
    intro m x h
    refine (ih _ x fun q => h (List.mem_cons_of_mem _ q)).trans ?_
    split
    · rfl
    · exact if_neg fun (q : x = p.1) => h (by rw [q]; exact List.mem_cons_self)
theorem bindL_get (k : Str → Option NameKind) (l : List (Str × Value)) : ∀ (m : Str → Option Value) (x : Str) (u : Value), (l.map (·.1)).Nodup → (x, u) ∈ l → k x = some .local → bindL k l m x = some u := by
  induction l with
  | nil => intro _ _ _ _ hm; cases hm
  | cons p r ih =>
    intro m x u hn hm hk
    have hn := List.nodup_cons.mp hn
    rcases List.mem_cons.mp hm with e | hm
    · subst e
      refine (bindL_other k r _ _ hn.1).trans ?_
      rw [if_pos hk]; exact if_pos rfl
    · exact ih _ x u hn.2 hm hk
theorem bindC_get (k : Str → Option NameKind) (l : List (Str × Value)) : ∀ (m : Str → Option Value) (x : Str) (u : Value), (l.map (·.1)).Nodup → (x, u) ∈ l → k x ≠ some .local → bindC k l m x = some u := by
  induction l with
  | nil => intro _ _ _ _ hm; cases hm
  | cons p r ih =>
    intro m x u hn hm hk
    have hn := List.nodup_cons.mp hn
    rcases List.mem_cons.mp hm with e | hm
    · subst e
      refine (bindC_other k r _ _ hn.1).trans ?_
      rw [if_neg hk]; exact if_pos rfl
    · exact ih _ x u hn.2 hm hk
theorem bindP_zip {φ : Ap} {h : Heap} {ps : List Str} : ∀ {us : List Value} {vs : List V} {ρ : Rho}, bindP ps vs = some ρ → RepVs φ h us vs → ps.length = us.length ∧ ∀ x v, ρ.lookup x = some v → ∃ u, (x, u) ∈ ps.zip us ∧ RepV φ h u v := by
  induction ps with
  | nil =>
    intro us vs ρ e r
    cases r with
    | nil => exact ⟨rfl, fun x v h => nn (Option.some.inj e ▸ h)⟩
    | cons _ _ => exact nn e
  | cons p ps ih =>
    intro us vs ρ e r
    cases r with
    | nil => exact nn e
    | cons a r =>
      refine mk' e fun ρ' e' er => ?_
      subst er
      obtain ⟨l, f⟩ := ih e' r
      refine ⟨congrArg (· + 1) l, fun x w hx => ?_⟩
      rw [List.lookup_cons] at hx
      cases hb : x == p with
      | true =>
        rw [hb] at hx
        rw [eq_of_beq hb]
        exact ⟨_, List.mem_cons_self, Option.some.inj hx ▸ a⟩
      | false =>
        rw [hb] at hx
        obtain ⟨u, m, q⟩ := f x w hx
        exact ⟨u, List.mem_cons_of_mem _ m, q⟩
section
variable {prog : Program} {w : World} {hb : Heap} {mg mb : Str → Option Value} {C : Ctx} {m b : Nat} {σ : Sto} {A : Around} {φ : Ap} {s : Shared} {E : Value → Shared → Prop}
theorem run_k {P : Prop} {y : Fl × Rho × Sto} {v : V} {σ' : Sto} (e : runOf y = some (v, σ')) (k1 : ∀ v1, y.1 = .ret v1 → v1 = v → σ' = y.2.2 → P) (k2 : y.1 = .next → V.p .none = v → σ' = y.2.2 → P) : P := by
  obtain ⟨f, ρ, σ⟩ := y
  cases f with
  | next => exact k2 rfl (Prod.mk.inj (Option.some.inj e)).1 (Prod.mk.inj (Option.some.inj e)).2.symm
  | brk => exact nn e
  | ret v => exact k1 v rfl (Prod.mk.inj (Option.some.inj e)).1 (Prod.mk.inj (Option.some.inj e)).2.symm
theorem call_fn (B : Base hb mg mb) (PR : Prims prog w hb) (CO : CtxOk prog w hb mg C m) (hm : 10 ≤ m) {f : Addr} {fn : Fn} {fd : FuncData} (F : FnIs hb f fn fd) (hA : AOk A (m + 1)) (O : StoOk hb φ σ s.heap) {us full : List Value} {kw : List (Str × Value)} {vs : List V} {v : V} {σ' : Sto}
    (bind : BindsTo s fd ⟨us, kw⟩ (fn.params.zip full)) (r : RepVs φ s.heap full vs) (e : runFn C fn b σ vs = some (v, σ')) {Q : Value → Shared → Prop}
    (h : ∀ u s', (∃ h' tk, s' = { s with heap := h', toks := tk }) → (∀ a o, a ∉ φ.ix.drop b → s.heap.get? a = some o → s'.heap.get? a = some o) → StoOk hb φ (σ'.take σ.length) s'.heap → RepV φ s'.heap u v → Q u s') :
    wpAny (model prog w) A (call (.ref f) us kw) Q E s := by
  refine bk e fun ρ eρ e => bk e fun y eb e => ?_
  · obtain ⟨hlen, hzip⟩ := bindP_zip eρ r
    obtain ⟨o, ho, hd⟩ := F.at_
    have hnm : (fn.params.zip full).map (·.1) = fn.params := by
      rw [List.map_fst_zip]; omega
    have hroom : A.depth < recursionLimit := by
      have : recursionLimit = 1000 := by decide +kernel
      have := hA.2.1; omega
    have hparam : ∀ x u, (x, u) ∈ fn.params.zip full → x ∈ fn.params := fun x u hx => hnm ▸ List.mem_map.mpr ⟨_, hx, rfl⟩
    refine wpAny_call (codeAny_call_function hroom (O.base f o ho) hd F.co F.gen F.body (F.code.keeps O.base) (bind _ _ _ _ ?_))
    rw [F.clo]
    refine wpAny_newFunctionEnv_cells F.kind (fun x hx => ?_) fun env he s1 x1 => ?_
    · have := (F.par x.1 (hparam x.1 x.2 hx)).1
      rw [← F.names] at this
      refine this.imp id fun q => ⟨q, ?_⟩
      obtain ⟨c, _, hc⟩ := cf_new fd.scope.names (s.heap.objs.size + 1) [] x.1 (mem_of_lookup q)
      rw [hc]; rfl
    · have Kx : Kp s s1 := x1.toInCall.done
      refine ⟨B.nolim.keeps (O.kp Kx).base, codeAny_func ?_⟩
      have esc : env.scope = fd.scope := by rw [he]; rfl
      have ekind : ∀ x, env.kindOf x = fn.sc.lookup x := fun x => by unfold Env.kindOf; rw [esc, F.names]
      have eglob : env.globals = fd.globals := by rw [he]; rfl
      have eblt : env.builtins = fd.builtins := by rw [he]; rfl
      have ecells : env.cells = cellsFrom (s.heap.objs.size + 1) fd.scope.names [] := by rw [he]; rfl
      generalize hκ : (env.locals :: fn.sc.filterMap (fun p => env.cells.lookup p.1) : List Addr) = κ
      have hκm : ∀ a : Nat, a ∈ κ → a = env.locals ∨ ∃ y, env.cells.lookup y = some a := fun a ha => by
        rw [← hκ] at ha
        rcases List.mem_cons.mp ha with q | q
        · exact .inl q
        · obtain ⟨p, _, hp⟩ := List.mem_filterMap.mp q
          exact .inr ⟨p.1, hp⟩
      have hloc : env.locals ∈ κ := by rw [← hκ]; exact List.mem_cons_self
      have hcl : ∀ y c, env.cells.lookup y = some c → c ∈ κ := fun y c hc => by
        rw [← hκ]
        have hm := mem_of_lookup hc
        rw [ecells] at hm
        rcases cf_mem _ _ _ _ _ hm with q | ⟨_, q⟩
        · cases q
        · exact List.mem_cons_of_mem _ (List.mem_filterMap.mpr ⟨(y, .cell), F.names ▸ q, hc⟩)
      have hfresh : ∀ a, a ∈ κ → s.heap.get? a = none := fun a ha => by
        have hf := x1.toInCall.fresh
        rcases hκm a ha with q | ⟨y, q⟩
        · exact get_ge (q ▸ hf)
        · exact get_ge (Nat.le_of_lt (Nat.lt_of_le_of_lt hf (x1.above y a (mem_of_lookup q))))
      have cellEx : ∀ y, fn.sc.lookup y = some .cell → ∃ c, env.cells.lookup y = some c := fun y hy => by
        rw [← F.names] at hy
        obtain ⟨c, _, hc⟩ := cf_new fd.scope.names (s.heap.objs.size + 1) [] y (mem_of_lookup hy)
        exact ⟨c, ecells ▸ hc⟩
      let φ1 : Ap := ⟨φ.ix, κ ++ φ.pr⟩
      have hs1 : ∀ a ∈ φ1.pr, a ∈ φ.pr ∨ s.heap.get? a = none := fun a ha => by
        rcases List.mem_append.mp ha with q | q
        · exact .inr (hfresh a q)
        · exact .inl q
      have cellGet : ∀ y c, env.cells.lookup y = some c → ∃ o, s1.heap.get? c = some o := fun y c hc => by
        obtain ⟨o', eo, _⟩ := x1.cell y c hc
        exact ⟨o', eo⟩
      have O1 : StoOk hb φ1 σ s1.heap := O.grow Kx rfl hs1 fun a ha => by
        rcases List.mem_append.mp ha with q | q
        · rcases hκm a q with q | ⟨y, q⟩
          · subst q
            obtain ⟨o', _, _, eo, _⟩ := x1.toInCall.ns
            exact ⟨o', eo⟩
          · exact cellGet y a q
        · exact (O.kp Kx).low a (List.mem_append_right _ q)
      have V1 : EnvOk env fn.sc φ1 ρ s1.heap := by
        refine ⟨by rw [esc]; exact F.kind, eglob.trans F.glob, eblt.trans F.blt, fun x k hx => .inl ((ekind x).trans hx), fun x v' hx hd' => ?_⟩
        obtain ⟨u, hm', hr⟩ := hzip x v' hx
        have hrep : RepV φ1 s1.heap u v' := (RepV.more (φ := φ) (ψ := φ1) rfl (fun y my => by
          rcases List.mem_append.mp my with q | q
          · exact .inl (List.mem_append_left _ q)
          · exact (hs1 y q).imp (fun q => List.mem_append_right _ q) id) hr).keep (Kx.kb _)
        obtain ⟨hp1, hp2⟩ := F.par x (hparam x u hm')
        have hnd : ((fn.params.zip full).map (·.1)).Nodup := by rw [hnm]; exact F.nd
        refine ⟨u, ?_, hrep⟩
        rcases hp1 with q | q
        · exact .inl ⟨(ekind x).trans q, _, x1.toInCall.ns, bindL_get _ _ _ _ _ hnd hm' ((ekind x).trans q)⟩
        · obtain ⟨c, hc⟩ := cellEx x q
          refine .inr ⟨.inl ((ekind x).trans q), hp2, c, hc, ?_⟩
          have := x1.cell x c hc
          rw [bindC_get _ _ _ _ _ hnd hm' (by rw [ekind x, q]; decide)] at this
          exact this
      have F1 : FrOk env fn.sc κ s1.heap := by
        refine ⟨⟨_, x1.toInCall.ns⟩, hloc, fun y hy => ?_⟩
        obtain ⟨c, hc⟩ := cellEx y hy
        exact ⟨c, hc, hcl y c hc, ⟨_, x1.cell y c hc⟩, fun y' hy' => name_of_addr x1.apart (mem_of_lookup hy') (mem_of_lookup hc)⟩
      have X1 : At hb env fn.sc φ1 κ ρ σ s1 := ⟨O1, V1, F1, ⟨fun a ha => List.mem_append_left _ ha, hloc, fun x c hc => hcl x c hc⟩⟩
      have fin : ∀ {σ1 : Sto} {ρ1 : Rho} {u : Value} {φ2 : Ap} {s2 : Shared}, Step κ b φ1 s1 φ2 s2 → At hb env fn.sc φ2 κ ρ1 σ1 s2 → σ' = σ1 → RepV ⟨φ2.ix.take σ.length, φ2.pr⟩ s2.heap u v → Q u s2 := by
        intro σ1 ρ1 u φ2 s2 st Y eσ hr
        subst eσ
        obtain ⟨new, e1, e2⟩ := st.ix
        have e1 : φ2.ix = φ.ix ++ new := e1
        have etake : φ2.ix.take σ.length = φ.ix := by rw [e1, ← O.len, List.take_left]
        have hsub : ∀ a ∈ φ.pr, a ∈ φ2.pr := fun a ha => by rw [st.pr]; exact List.mem_append_right _ ha
        refine h u s2 ?_ (fun a o ha eo => ?_) ?_ ?_
        · obtain ⟨hh, tt, rfl, _⟩ := Kx
          obtain ⟨h2, t2, rfl⟩ := st.sh
          exact ⟨h2, t2, rfl⟩
        · exact st.keep a o (fun q => by rw [hfresh a q] at eo; cases eo) ha (Kx.all a o eo)
        · exact StoOk.fewer (φ := ⟨φ2.ix.take σ.length, φ2.pr⟩) (ψ := φ) etake.symm hsub (sto_take Y.O)
        · exact RepV.fewer (φ := ⟨φ2.ix.take σ.length, φ2.pr⟩) (ψ := φ) etake.symm hsub hr
      refine body_run (ex_ok B PR CO hm 23 fn.mu b σ.length fuelS) (AOk.deeper hA) (show body _ fn.bd ρ σ = some (y.1, y.2.1, y.2.2) from eb) X1 (Nat.le_refl _) fun fl φ2 s2 st Y hf => ?_
      refine run_k e (fun v1 hn ev es => ?_) fun hn ev es => ?_
      · obtain ⟨u, rfl, hr⟩ := fl_at hn hf
        exact fin st Y es (ev ▸ hr)
      · obtain rfl : fl = .next := fl_at hn hf
        exact fin st Y es (ev ▸ .p .none)
end
-- S25
section
variable {prog : Program} {w : World} {hb : Heap} {mg mb : Str → Option Value} {C : Ctx} {m : Nat}
theorem keeper_fn {f : Addr} {fn : Fn} {fd : FuncData} (F : FnIs hb f fn fd) : Keeper1 prog w hb (.ref f) := by
  obtain ⟨o, ho, hd⟩ := F.at_
  refine ⟨.frame, fun s A Q E hk hq => ?_⟩
  unfold keeperOf
  refine wpAny_bind (wpAny_load (hk f o ho) ?_)
  rw [hd]
  exact wpAny_pure hq
theorem runFn_len {f : Fn} {b : Nat} {σ σ' : Sto} {vs : List V} {v : V} (e : runFn C f b σ vs = some (v, σ')) : ∃ ρ, bindP f.params vs = some ρ := by
  exact bk e fun ρ h _ => ⟨ρ, h⟩
theorem callP_gen (B : Base hb mg mb) (PR : Prims prog w hb) (CO : CtxOk prog w hb mg C m) (hm : 10 ≤ m) {f : Addr} {fn : Fn} {fd : FuncData} (F : FnIs hb f fn fd) {A : Around} {φ : Ap} {σ : Sto} {us full : List Value} {kw : List (Str × Value)} {vs : List V} {r : V} {s : Shared} {Q : Value → Shared → Prop} {E : Value → Shared → Prop}
    (hA : AOk A (m + 1)) (O : StoOk hb φ σ s.heap) (bind : full.length = fn.params.length → BindsTo s fd ⟨us, kw⟩ (fn.params.zip full)) (rv : RepVs φ s.heap full vs) (e : runP C fn σ vs = some r) (h : ∀ u s', Kp s s' → RepV φ s'.heap u r → Q u s') : wpAny (model prog w) A (call (.ref f) us kw) Q E s := by
  obtain ⟨⟨v, σ'⟩, e1, rfl⟩ := Option.map_eq_some_iff.mp e
  obtain ⟨ρ, hρ⟩ := runFn_len e1
  refine call_fn B PR CO hm F hA O (bind (bindP_zip hρ rv).1.symm) rv e1 fun u s' sh hk _ hr => h u s' ?_ hr
  obtain ⟨h', tk, rfl⟩ := sh
  exact ⟨h', tk, rfl, fun a o eo => hk a o (by rw [← O.len, List.drop_length]; exact List.not_mem_nil) eo⟩
theorem callP_fn (B : Base hb mg mb) (PR : Prims prog w hb) (CO : CtxOk prog w hb mg C m) (hm : 10 ≤ m) {f : Addr} {fn : Fn} {fd : FuncData} (F : FnIs hb f fn fd) (bind : ∀ us s, us.length = fn.params.length → BindsTo s fd ⟨us, []⟩ (fn.params.zip us)) :
    CallP prog w hb (m + 1) (.ref f) (runP C fn) :=
  fun _ _ _ us _ _ s _ _ hA O rv e h => callP_gen B PR CO hm F hA O (bind us s) rv e h
theorem callA_fn (B : Base hb mg mb) (PR : Prims prog w hb) (CO : CtxOk prog w hb mg C m) (hm : 10 ≤ m) {f : Addr} {fn : Fn} {fd : FuncData} (F : FnIs hb f fn fd) (bind : ∀ us s, us.length = fn.params.length → BindsTo s fd ⟨us, []⟩ (fn.params.zip us)) :
    CallA prog w hb (m + 1) (.ref f) (runA C fn) := by
  intro A φ σ us vs r σ' s Q E hA O rv e h
  obtain ⟨⟨v, σ1⟩, e1, e2⟩ := Option.map_eq_some_iff.mp e
  cases e2
  obtain ⟨ρ, hρ⟩ := runFn_len e1
  refine call_fn B PR CO hm F hA O (bind us s (bindP_zip hρ rv).1.symm) rv e1 fun u s' sh hk O' hr => h u s' ?_ O' hr
  obtain ⟨h', tk, rfl⟩ := sh
  exact ⟨h', tk, rfl, fun a o ha eo => hk a o (by simpa using ha) eo⟩
theorem CallP.less {m n : Nat} {fv : Value} {g : Sto → List V → Option V} (x : CallP prog w hb m fv g) (h : m ≤ n) : CallP prog w hb n fv g := fun A φ σ us vs r s Q E hA => x A φ σ us vs r s Q E (hA.less h)
theorem CallA.less {m n : Nat} {fv : Value} {g : Sto → List V → Option (V × Sto)} (x : CallA prog w hb m fv g) (h : m ≤ n) : CallA prog w hb n fv g := fun A φ σ us vs r σ' s Q E hA => x A φ σ us vs r σ' s Q E (hA.less h)
theorem CallK.less {c : Bool} {m n : Nat} {fv : Value} {g : Sto → List V → Option V} (x : CallK prog w hb c m fv g) (h : m ≤ n) : CallK prog w hb c n fv g := fun A φ σ us vs kw ks r s Q E hA => x A φ σ us vs kw ks r s Q E (hA.less h)
theorem CallP.k {m : Nat} {fv : Value} {g : Sto → List V → Option V} (x : CallP prog w hb m fv g) : CallK prog w hb false m fv g := by
  intro A φ σ us vs kw ks r s Q E hA O rv rk hk e h
  rcases hk with ⟨rfl, _⟩ | ⟨q, _⟩
  · cases rk
    exact x A φ σ us vs r s Q E hA O rv (by simpa using e) h
  · cases q
end
-- S26
section
variable {prog : Program} {w : World} {hb : Heap} {m : Nat}
theorem noPyAbs {a b : Int} (h : b.natAbs < 9223372036854775808) : Builtin.divisionGoesByPylong a b = false := by
  unfold Builtin.divisionGoesByPylong
  have h1 : b.natAbs < 2 ^ 63 := by omega
  have h3 : ¬ ((if b == 0 then 0 else b.natAbs.log2 / 30 + 1) > 300) := by
    split
    · omega
    · rename_i hb
      have hb : b ≠ 0 := by simpa using hb
      have h2 : b.natAbs.log2 < 63 := (Nat.log2_lt (by omega)).mpr h1
      have : b.natAbs.log2 / 30 ≤ 63 := Nat.le_trans (Nat.div_le_self _ _) (Nat.le_of_lt h2)
      omega
  simp only [Bool.and_eq_false_iff, decide_eq_false_iff_not]
  exact .inl h3
theorem tiny_iff {a : Int} (h : tiny a = true) : -1000000 ≤ a ∧ a ≤ 1000000 := by
  simpa [tiny] using h
theorem range_small {a b c : Int} (ha : tiny a = true) (hb : tiny b = true) (hc : c = -1 ∨ c = 1) : Builtin.Range.small a b c = true ∧ Builtin.Range.rangeSize a b c = ((if c == 1 then (b - a).toNat else (a - b).toNat : Nat) : Int) := by
  have ha := tiny_iff ha
  have hb := tiny_iff hb
  have hs : Builtin.Range.rangeSize a b c = ((if c == 1 then (b - a).toNat else (a - b).toNat : Nat) : Int) := by
    unfold Builtin.Range.rangeSize
    rcases hc with rfl | rfl
    · rw [if_neg (by decide)]
      simp only [show ((-1 : Int) == 1) = false from by decide, Bool.false_eq_true, if_false, show (- (-1) : Int) = 1 from by decide, Int.ediv_one]
      split <;> omega
    · rw [if_pos (by decide)]
      simp only [show ((1 : Int) == 1) = true from by decide, if_true, Int.ediv_one]
      split <;> omega
  refine ⟨?_, hs⟩
  unfold Builtin.Range.small
  rw [hs]
  rcases hc with rfl | rfl
  · simp only [show ((-1 : Int) == 1) = false from by decide, Bool.false_eq_true, if_false, Builtin.Range.rangeFitsLong, Bool.and_eq_true, Bool.or_eq_true, decide_eq_true_eq, show ¬ ((-1 : Int) > 0) from by decide]
    refine ⟨⟨⟨⟨⟨by omega, by omega⟩, by omega, by omega⟩, by omega, by omega⟩, by omega, by omega⟩, .inr ⟨by omega, by omega⟩⟩
  · simp only [show ((1 : Int) == 1) = true from by decide, if_true, Builtin.Range.rangeFitsLong, Bool.and_eq_true, Bool.or_eq_true, decide_eq_true_eq, show ((1 : Int) > 0) from by decide]
    refine ⟨⟨⟨⟨⟨by omega, by omega⟩, by omega, by omega⟩, by omega, by omega⟩, by omega, by omega⟩, .inr ⟨by omega, by omega⟩⟩
theorem p_one {fv : Value} {f : Sto → V → Option V} (H : ∀ {A : Around} {φ : Ap} {σ : Sto} {u : Value} {x r : V} {s : Shared} {Q : Value → Shared → Prop} {E : Value → Shared → Prop}, AOk A m → StoOk hb φ σ s.heap → RepV φ s.heap u x → f σ x = some r → (∀ u s', Kp s s' → RepV φ s'.heap u r → Q u s') → wpAny (model prog w) A (call fv [u] []) Q E s) :
    CallP prog w hb m fv (fun σ vs => (one? vs).bind (f σ)) := by
  intro A φ σ us vs r s Q E hA O rv e h
  refine bk e fun x ex e => ?_
  obtain rfl := one_some ex
  cases rv with
  | cons a rv => cases rv; exact H hA O a e h
theorem p_two {fv : Value} {f : V × V → Option V} (H : ∀ {A : Around} {φ : Ap} {σ : Sto} {u v : Value} {z : V × V} {r : V} {s : Shared} {Q : Value → Shared → Prop} {E : Value → Shared → Prop}, StoOk hb φ σ s.heap → RepV φ s.heap u z.1 → RepV φ s.heap v z.2 → f z = some r → (∀ u s', Kp s s' → RepV φ s'.heap u r → Q u s') → wpAny (model prog w) A (call fv [u, v] []) Q E s) :
    CallP prog w hb m fv (fun _ vs => (two? vs).bind f) := by
  intro A φ σ us vs r s Q E hA O rv e h
  refine bk e fun x ex e => ?_
  obtain rfl := two_some ex
  cases rv with
  | cons a rv => cases rv with
    | cons b rv => cases rv; exact H O a b e h
inductive IntArgs : List Value → List Int → Prop
  | nil : IntArgs [] []
  | cons (i : Int) (t : Tok) {us : List Value} {is : List Int} : IntArgs us is → IntArgs (.int i t :: us) (i :: is)
theorem ints_args {φ : Ap} {h : Heap} {us : List Value} {vs : List V} (rv : RepVs φ h us vs) : ∀ {is : List Int}, intsV? vs = some is → IntArgs us is := by
  induction rv with
  | nil => intro is e; exact Option.some.inj e ▸ .nil
  | @cons u v us vs a _ ih => intro is e; exact bk e fun i ei e => mk' e fun is' e1 e2 => e2 ▸ kInt u a ei fun t => .cons i t (ih e1)
theorem p_range : CallP prog w hb m (.type "range") fun _ => rangeV := by
  intro A φ σ us vs r s Q E hA O rv e h
  refine bk e fun is ei e => ?_
  cases ints_args rv ei with
  | nil => exact nn e
  | cons a t X =>
    cases X with
    | nil =>
      refine gk e fun hn e => ?_
      obtain ⟨h1, h2⟩ := range_small (a := 0) (c := 1) (by decide) (an hn).1 (.inr rfl)
      exact call_range_1 (hv h e _ _ (Kp.push _ _ _) (.rng (notin_fresh O) (Heap.get?_push_size _ rfl) h1 (h2.trans (by simp))))
    | cons b t' X =>
      cases X with
      | nil => exact nn e
      | cons c t'' X =>
        cases X with
        | cons _ _ _ => exact nn e
        | nil =>
          refine gk e fun hn e => ?_
          have hc : c = -1 ∨ c = 1 := (Bool.or_eq_true _ _ ▸ (an hn).2).imp eq_of_beq eq_of_beq
          obtain ⟨h1, h2⟩ := range_small (an (an hn).1).1 (an (an hn).1).2 hc
          exact call_range_3 (by omega) (hv h e _ _ (Kp.push _ _ _) (.rng (notin_fresh O) (Heap.get?_push_size _ rfl) h1 h2)) (.inl (noPyAbs (by omega)))
theorem chr_in {i : Int} (h : 0 ≤ i) (h' : i < 55296) : (decide (i < 0) || decide (i > 0x10FFFF)) = false := by rw [decide_eq_false (by omega), decide_eq_false (by omega)]; rfl
theorem p_chr : CallP prog w hb m (.builtin "chr") chrV := p_one fun {A φ σ u x r s Q E} _ _ a e h =>
  bk e fun i ei e => gk e fun hn e => kInt u a ei fun t => PySem.P.chr_of_int (chr_in (of_decide_eq_true (an hn).1) (of_decide_eq_true (an hn).2)) (hv h e _ _ (Kp.toks _ _) (.p (.str [i.toNat] _)))
theorem p_ord : CallP prog w hb m (.builtin "ord") ordV := p_one fun {A φ σ u x r s Q E} _ _ a e h =>
  bk e fun l el e => mk' e fun c ec e' => kStr u a el fun t => by
    obtain rfl := one_some ec
    exact PySem.P.ord_of_char (hq h e' _ _ (Kp.toks _ _) (.p (.int _ _)))
theorem p_isi : CallP prog w hb m (.builtin "isinstance") isiV := p_two fun {A φ σ u v z r s Q E} _ a b e h =>
  bk e fun i ei e => bk e fun t et e => gk e fun ht e => kInt u a ei fun t' => by
    rw [rTyp b et, show t = "int" from eq_of_beq ht]
    exact PySem.IsiPair.int_int (hv h e _ _ (Kp.refl _) (.p (.bool true)))
theorem p_int : CallP prog w hb m (.type "int") intV := p_one fun {A φ σ u x r s Q E} _ _ a e h =>
  mk' e fun i ei e => kInt u a ei fun t => call_int_int (hq h e _ _ (Kp.refl _) (.p (.int _ _)))
theorem abs_is (i : Int) : (if i < 0 then -i else i) = Int.ofNat i.natAbs := by split <;> simp only [Int.ofNat_eq_natCast] <;> omega
theorem p_abs : CallP prog w hb m (.builtin "abs") absV := p_one fun {A φ σ u x r s Q E} _ _ a e h =>
  mk' e fun i ei e => kInt u a ei fun t => PyProof.Rows.call_abs_int fun u tk => hq h e _ _ (Kp.toks _ _) (abs_is i ▸ .p (.int _ _))
theorem p_divmod : CallP prog w hb m (.builtin "divmod") divmodV := p_two fun {A φ σ u v z r s Q E} O a b e h =>
  kInt2 u v e a b fun x y t t' e => gk e fun hn e => PyProof.Rows.divmod_int (Int.ne_of_gt (of_decide_eq_true (an hn).1)) (hv h e _ _ (Kp.push _ _ _) (.p (newTup_rep (s := s) O (vs := [.int _ _, .int _ _]) (.cons (.int _ _) (.cons (.int _ _) .nil))))) (.inl (noPy (of_decide_eq_true (an hn).1) (small_iff (an hn).2).2))
theorem p_tuple : CallP prog w hb m (.type "tuple") tupleV := p_one fun {A φ σ u x r s Q E} _ O a e h =>
  bk e fun l el e => gk e fun hl e => by
    obtain ⟨p, xs, rfl, hn, hx, ra⟩ := rLst a el
    refine call_tuple_list hx (fun h' hk => ?_) (by rw [sizeLine_eq, ra.size]; exact of_decide_eq_true hl)
    have k : Kp s { s with heap := h' } := ⟨h', s.toks, rfl, hk⟩
    exact hv h e _ _ (k.trans (Kp.push' _ _)) (.p (newTup_rep (s := { s with heap := h' }) (O.kp k) (ra.keep (k.kb _))))
theorem p_type : CallP prog w hb m (.type "type") typeV := p_one fun {A φ σ u x r s Q E} _ O a e h =>
  ok e (fun e => mk' e fun l el e => kStr u a el fun t => call_type_of (typeIs_str s _ t) (by decide) (hq h e _ _ (Kp.refl _) (.typ _))) fun e => ok e (fun e => mk' e fun l el e => by
    obtain ⟨b, t, rfl, _⟩ := rBytes a el
    exact call_type_of (typeIs_bytes s b t) (by decide) (hq h e _ _ (Kp.refl _) (.typ _))) fun e => ok e (fun e => mk' e fun l el e => by
    obtain ⟨p, xs, rfl, hn, hx, ra⟩ := rLst a el
    exact call_type_of hx.typeIs (by decide) (hq h e _ _ (Kp.refl _) (.typ _))) fun e => mk' e fun i ei e => by
    cases rOwn a ei with
    | mk p q =>
      have hi : i < σ.length := by rw [← O.len]; exact (List.getElem?_eq_some_iff.mp q).1
      obtain ⟨p', xs, e1, hx, ra⟩ := O.sto i σ[i] (List.getElem?_eq_getElem hi)
      obtain rfl := Option.some.inj (q.symm.trans e1)
      exact call_type_of hx.isList.typeIs (by decide) (hq h e _ _ (Kp.refl _) (.typ _))
theorem ints_rep {φ : List Addr} {h : Heap} {vs : List Value} {l : List D} (r : RepA φ h vs l) : ∀ {is : List Int}, ints? l = some is → IntsAre vs is :=
  r.ind (M := fun vs l => ∀ {is : List Int}, ints? l = some is → IntsAre vs is) (fun e => Option.some.inj e ▸ .nil) fun v d vs l a _ ih is e => bk e fun i ei e => mk' e fun is' e1 e2 => by
    obtain ⟨t, rfl⟩ := repD_int (dInt ei ▸ a)
    exact e2 ▸ .cons i t (ih e1)
theorem intsAre_at : ∀ {vs : List Value} {is : List Int}, IntsAre vs is → ∀ (i : Nat) (v : Value), vs[i]? = some v → ∃ t, v = .int (is.getD i 0) t
  | _, _, .nil, i, v, h => by simp at h
  | _, _, .cons n t r, 0, v, h => by cases h; exact ⟨t, rfl⟩
  | _, _, .cons n t r, i + 1, v, h => by simpa using intsAre_at r i v (by simpa using h)
theorem preSum_sum : ∀ (is : List Int) (k : Nat), k ≤ is.length → preSum (fun i => is.getD i 0) k = (is.take k).sum
  | is, 0, _ => by simp [preSum]
  | is, k + 1, h => by
    rw [preSum, preSum_sum is k (by omega), List.take_succ_eq_append_getElem (by omega), List.sum_append]
    have : is.getD k 0 = is[k] := by simp [List.getD, show k < is.length from by omega]
    rw [this]; simp
theorem p_sum : CallP prog w hb m (.builtin "sum") sumV := p_one fun {A φ σ u x r s Q E} hA O a e h =>
  bk e fun l el e => bk e fun is ei e => gk e fun _ e => by
    cases lst_rep O a el with
    | mk p xs hx ra =>
      have hi := ints_rep ra ei
      obtain ⟨oa, hoa, _⟩ := id hx
      refine call_sum_walkG (wpAny_pyIter_list hx ⟨_, _, _, _, _, _, fun i => is.getD i 0, rfl, Walks.list (prog := prog) (w := w) (A := A.in1) hA.1 s.heap.objs.size p (Nat.ne_of_lt (Heap.lt_size hoa)) xs.toArray, ⟨⟨_, Heap.get?_push_size _ rfl, rfl, rfl⟩, hx.push _⟩, fun b hb' => ?_, fun i v hv => ?_, fun h' tk t' hk => ?_⟩)
      · show b < (s.heap.push _).objs.size
        rw [Heap.size_push]
        rcases List.mem_cons.mp hb' with q | q
        · exact q ▸ Nat.lt_succ_self _
        · exact List.mem_singleton.mp q ▸ Nat.lt_succ_of_lt (Heap.lt_size hoa)
      · exact intsAre_at hi i v ((List.getElem?_toArray ..).symm.trans hv)
      · refine hv h e _ _ ⟨h', tk, rfl, fun b o eo => hk b o (fun q => no_get eo (List.mem_singleton.mp q ▸ get_size _)) (Heap.get?_push_of_some _ eo)⟩ ?_
        have e1 : preSum (fun i => is.getD i 0) xs.toArray.size = is.sum := by
          rw [List.size_toArray, hi.length, preSum_sum is is.length (Nat.le_refl _), List.take_length]
        rw [e1]; exact .p (.int _ _)
theorem len_lt {n : Nat} (h : n ≤ 16777216) : ¬ ((n : Int) ≥ 2 ^ 63) := by omega
theorem len_lt' {n : Nat} (h : n ≤ 16777216) : (n : Int) < 2 ^ 63 := by omega
theorem len_fin {φ : Ap} {s : Shared} {r : V} {n k : Nat} {Q : Value → Shared → Prop} (h : ∀ u s', Kp s s' → RepV φ s'.heap u r → Q u s') (e : some (V.p (.int (k : Int))) = some r) (hn : n = k) {t t' : Nat} : Q (.int (n : Int) t) { s with toks := t' } := hv h e _ _ (Kp.toks _ _) (.p (hn ▸ .int _ _))
theorem p_len {meth : Str → Option Pr} (hH : ∀ f, meth "__len__" = some f → ∀ A φ σ a i n s (Q : Value → Shared → Prop) (E : Value → Shared → Prop), AOk A m → StoOk hb φ σ s.heap → RepV φ s.heap (.ref a) (.hdr i) → f σ [.hdr i] = some (.p (.int n)) → 0 ≤ n → n ≤ 1000000 →
      (∀ t s', Kp s s' → Q (.int n t) s') → wpAny (model prog w) A (call (.builtin "len") [.ref a]) Q E s) : CallP prog w hb m (.builtin "len") (lenV meth) := p_one fun {A φ σ u x r s Q E} hA O a e h =>
  ok e (fun e => bk e fun l el e => gk e fun hl e => kStr u a el fun t => PySem.P.len_str (len_lt (of_decide_eq_true hl)) (len_fin h e rfl)) fun e => ok e (fun e => bk e fun i ei e => bk e fun f ef e => bk e fun r0 er e => bk e fun n en e => gk e fun hn e' => by
    obtain rfl := isInt' en
    cases rHdr a ei with
    | mk p b q z => exact hH f ef A φ σ _ i n s Q E hA O (.hdr q z) er (of_decide_eq_true (an hn).1) (of_decide_eq_true (an hn).2) fun t s' k => hv h e' _ _ k (.p (.int n t))) fun e => ok e (fun e => bk e fun l el e => gk e fun hl e => by
    obtain ⟨p, xs, rfl, hn, hx, ra⟩ := rTup a el
    exact len_tuple hx (by rw [ra.size]; exact len_lt' (of_decide_eq_true hl)) (len_fin h e ra.size)) fun e => bk e fun l el e => gk e fun hl e => by
    cases lst_rep O a el with
    | mk p xs hx ra => exact call_len_list hx (by rw [ra.size]; exact len_lt' (of_decide_eq_true hl)) (len_fin h e ra.size)
theorem byte_is {is : List Int} (hr : ∀ n ∈ is, 0 ≤ n ∧ n < 256) : (byteArr is).toList.map (·.toNat) = is.map Int.toNat := by
  unfold byteArr
  simp only [List.map_map]
  refine List.map_congr_left fun n hn => ?_
  have := hr n hn
  show (n.toNat.toUInt8).toNat = n.toNat
  rw [Nat.toUInt8_eq, UInt8.toNat_ofNat']
  omega
theorem p_bytes {meth : Str → Option Pr} (hH : ∀ f, meth "__bytes__" = some f → ∀ A φ σ a i b s (Q : Value → Shared → Prop) (E : Value → Shared → Prop), AOk A m → StoOk hb φ σ s.heap → RepV φ s.heap (.ref a) (.hdr i) → f σ [.hdr i] = some (.p (.bytes b)) →
      (∀ u s', Kp s s' → RepV φ s'.heap u (.p (.bytes b)) → Q u s') → wpAny (model prog w) A (call (.type "bytes") [.ref a]) Q E s) : CallP prog w hb m (.type "bytes") (bytesV meth) := p_one fun {A φ σ u x r s Q E} hA O a e h =>
  ok e (fun e => bk e fun i ei e => bk e fun f ef e => bk e fun r0 er e => mk' e fun b eb e' => by
    obtain rfl := isBytes eb
    cases rHdr a ei with
    | mk p b' q z => exact hH f ef A φ σ _ i b s Q E hA O (.hdr q z) er (e' ▸ h)) fun e => bk e fun l el e => bk e fun is ei e => gk e fun hc e => by
    cases lst_rep O a el with
    | mk p xs hx ra =>
      have hr : ∀ n ∈ is, 0 ≤ n ∧ n < 256 := fun n hn => have q := an (List.all_eq_true.mp (an hc).1 n hn); ⟨of_decide_eq_true q.1, of_decide_eq_true q.2⟩
      exact call_bytes_ints hx (ints_rep ra ei) hr (by rw [sizeLine_eq, ra.length]; exact of_decide_eq_true (an hc).2) hA.1 fun h' t k hk => hv h e _ _ ⟨h', k, rfl, hk⟩ (.p (byte_is hr ▸ .bytes _ _))
theorem p_str {meth : Str → Option Pr} (hH : ∀ f, meth "__str__" = some f → ∀ A φ σ a i b s (Q : Value → Shared → Prop) (E : Value → Shared → Prop), AOk A m → StoOk hb φ σ s.heap → RepV φ s.heap (.ref a) (.hdr i) → f σ [.hdr i] = some (.p (.str b)) →
      (∀ u s', Kp s s' → RepV φ s'.heap u (.p (.str b)) → Q u s') → wpAny (model prog w) A (call (.type "str") [.ref a]) Q E s) : CallP prog w hb m (.type "str") (strV meth) := p_one fun {A φ σ u x r s Q E} hA O a e h =>
  bk e fun i ei e => bk e fun f ef e => bk e fun r0 er e => mk' e fun b eb e' => by
    obtain rfl := isStr eb
    cases rHdr a ei with
    | mk p b' q z => exact hH f ef A φ σ _ i b s Q E hA O (.hdr q z) er (e' ▸ h)
end
end
section
open PySem PySem.Calls PyProof.Rows PySem.W PySem.SeqAt
set_option autoImplicit false
set_option maxRecDepth 100000
-- S27
theorem slot_bytes_split : Slot "bytes" "split" "bytes.split" :=
  .of (owner := "bytes") (n := "split") (by rw [typeLookup_type, builtinLookup_eq_fast]; kernel_rfl) (by decide +kernel) (by decide +kernel) (by decide +kernel)
    (by first | exact .inl (by decide +kernel) | exact .inr (by decide +kernel)) (by rw [isSubtype_type]; kernel_rfl)
theorem type_bytes_split : typeOf (.builtin "bytes.split") = pure (.type "method_descriptor") := by show builtinType _ = _; rw [builtinType_eq_fast]; kernel_rfl
theorem entry_bytes_split : entryFor table "bytes.split" = some Builtin.«bytes.split» := entryFor_of_tree (by kernel_rfl)
theorem args_bytes_split (a : Value) : argsOk "bytes.split" ⟨[a], []⟩ := by unfold argsOk; kernel_rfl
theorem plainAttrs_pat : PlainAttrs "re.Pattern" := ⟨⟨"object.__getattribute__", by rw [typeLookup_type, builtinLookup_eq_fast]; kernel_rfl, by decide +kernel⟩, by rw [typeLookup_type, builtinLookup_eq_fast]; kernel_rfl⟩
theorem slot_pat_match : Slot "re.Pattern" "match" "re.Pattern.match" :=
  .of (owner := "re.Pattern") (n := "match") (by rw [typeLookup_type, builtinLookup_eq_fast]; kernel_rfl) (by decide +kernel) (by decide +kernel) (by decide +kernel)
    (by first | exact .inl (by decide +kernel) | exact .inr (by decide +kernel)) (by rw [isSubtype_type]; kernel_rfl)
theorem type_pat_match : typeOf (.builtin "re.Pattern.match") = pure (.type "method_descriptor") := by show builtinType _ = _; rw [builtinType_eq_fast]; kernel_rfl
theorem entry_pat_match : entryFor table "re.Pattern.match" = some Builtin.«re.Pattern.match» := entryFor_of_tree (by kernel_rfl)
theorem args_pat_match (a b : Value) : argsOk "re.Pattern.match" ⟨[a, b], []⟩ := by unfold argsOk; kernel_rfl
theorem slot_pat_search : Slot "re.Pattern" "search" "re.Pattern.search" :=
  .of (owner := "re.Pattern") (n := "search") (by rw [typeLookup_type, builtinLookup_eq_fast]; kernel_rfl) (by decide +kernel) (by decide +kernel) (by decide +kernel)
    (by first | exact .inl (by decide +kernel) | exact .inr (by decide +kernel)) (by rw [isSubtype_type]; kernel_rfl)
theorem type_pat_search : typeOf (.builtin "re.Pattern.search") = pure (.type "method_descriptor") := by show builtinType _ = _; rw [builtinType_eq_fast]; kernel_rfl
theorem entry_pat_search : entryFor table "re.Pattern.search" = some Builtin.«re.Pattern.search» := entryFor_of_tree (by kernel_rfl)
theorem args_pat_search (a b : Value) : argsOk "re.Pattern.search" ⟨[a, b], []⟩ := by unfold argsOk; kernel_rfl
theorem plainAttrs_mat : PlainAttrs "re.Match" := ⟨⟨"object.__getattribute__", by rw [typeLookup_type, builtinLookup_eq_fast]; kernel_rfl, by decide +kernel⟩, by rw [typeLookup_type, builtinLookup_eq_fast]; kernel_rfl⟩
theorem slot_mat_group : Slot "re.Match" "group" "re.Match.group" :=
  .of (owner := "re.Match") (n := "group") (by rw [typeLookup_type, builtinLookup_eq_fast]; kernel_rfl) (by decide +kernel) (by decide +kernel) (by decide +kernel)
    (by first | exact .inl (by decide +kernel) | exact .inr (by decide +kernel)) (by rw [isSubtype_type]; kernel_rfl)
theorem type_mat_group : typeOf (.builtin "re.Match.group") = pure (.type "method_descriptor") := by show builtinType _ = _; rw [builtinType_eq_fast]; kernel_rfl
theorem entry_mat_group : entryFor table "re.Match.group" = some Builtin.«re.Match.group» := entryFor_of_tree (by kernel_rfl)
theorem args_mat_group (a b : Value) : argsOk "re.Match.group" ⟨[a, b], []⟩ := by unfold argsOk; kernel_rfl
theorem mat_no_bool : typeLookup (.type "re.Match") "__bool__" = pure none := by rw [typeLookup_type, builtinLookup_eq_fast]; kernel_rfl
theorem mat_no_len : typeLookup (.type "re.Match") "__len__" = pure none := by rw [typeLookup_type, builtinLookup_eq_fast]; kernel_rfl
noncomputable def lowTab (c : Nat) : Bool := (lower1 [c]).all fun t => Txt.lower ⟨#[c]⟩ == ⟨t.toArray⟩ && t.length == 1
theorem lower_tab : (List.range 256).all lowTab = true := by decide +kernel
theorem low_lt {c : Nat} {t : List Nat} (e : lower1 [c] = some t) : c < 256 := Decidable.byContradiction fun hc => by
  have h : lower1 [c] = none := by
    show (if _ = true then _ else if _ = true then _ else if _ = true then _ else none) = _
    rw [decide_eq_false (show ¬ c ≤ 90 by omega), Bool.and_false, if_neg Bool.false_ne_true, show (c == 192) = false from beq_eq_false_iff_ne.mpr (by omega), if_neg Bool.false_ne_true, decide_eq_false (show ¬ c ≤ 122 by omega), Bool.and_false, show (c == 224) = false from beq_eq_false_iff_ne.mpr (by omega)]; rfl
  exact nn (h.symm.trans e)
theorem lower_one {s t : List Nat} (e : lower1 s = some t) : Txt.lower ⟨s.toArray⟩ = ⟨t.toArray⟩ ∧ t.length = 1 := by
  have hs : ∃ c, s = [c] := bk e fun c ec _ => ⟨c, one_some ec⟩
  obtain ⟨c, rfl⟩ := hs
  have h : lowTab c = true := List.all_eq_true.mp lower_tab c (List.mem_range.mpr (low_lt e))
  unfold lowTab at h
  rw [e] at h
  exact ⟨eq_of_beq (an h).1, eq_of_beq (an h).2⟩
section
open Builtin Builtin.Str
set_option maxHeartbeats 4000000 in
theorem two_meets (a b : PySem.Str) (ha : a.length ≤ 400000) (hb : b.length ≤ 400000) (t u v : Tok) (p : Addr) : Meets (Builtin.«str.__mod__» ⟨[.str ⟨#[37,115,58,32,37,115]⟩ t, .ref p], []⟩) (fun _ R s => IsTup s.heap p #[.str a u, .str b v] ∧ ∀ t' k, R (.ok (.ret (.str (a ++ Str.ofString ": " ++ b) t'))) { s with toks := k }) := by
  kpt_run
end
section
variable {prog : Program} {w : World} {A : Around} {φ : Ap} {s : Shared} {Q : Value → Shared → Prop} {E : Value → Shared → Prop}
theorem l_mod (a b : List Nat) (t : Tok) (v : Value) (r : RepV φ s.heap v (.p (.tuple [.str a, .str b]))) (ha : a.length ≤ 400000) (hb : b.length ≤ 400000) (h : ∀ u s', Kp s s' → RepV φ s'.heap u (.p (.str (a ++ [58, 32] ++ b))) → Q u s') :
    wpAny (model prog w) A (binaryOp .Mod (.str ⟨twoS.toArray⟩ t) v) Q E s := by
  obtain ⟨p, vs, rfl, hn, hx, ra⟩ := repD_tuple (repV_p r)
  cases ra with
  | cons r1 ra => cases ra with
    | cons r2 ra =>
      cases ra
      obtain ⟨t1, rfl⟩ := repD_str r1
      obtain ⟨t2, rfl⟩ := repD_str r2
      have hT : s.TypeIs (.ref p) "tuple" := hx.typeIs
      refine KPt.bin_left (T := "str") (U := "tuple") (op := .Mod) (by decide) (typeIs_str s _ t) hT PySem.F.fills_str_mod KPt.fills_tuple PySem.F.slot_str_mod
        (call_meets PySem.F.slot_str_mod (typeIs_str s _ t) PySem.F.entry_str_mod (PySem.F.args_str_mod_2 _ _) (two_meets ⟨a.toArray⟩ ⟨b.toArray⟩ (by simpa [Str.length] using ha) (by simpa [Str.length] using hb) t t1 t2 p) ⟨hx, fun t' k => ⟨(fun e => nomatch e), h _ _ (Kp.toks _ _) ?_⟩⟩)
      have e : ((⟨a.toArray⟩ : Str) ++ Str.ofString ": " ++ (⟨b.toArray⟩ : Str)) = ⟨(a ++ [58, 32] ++ b).toArray⟩ := by
        have e1 : Str.ofString ": " = ⟨#[58, 32]⟩ := by decide +kernel
        rw [e1]
        show (⟨a.toArray ++ #[58, 32] ++ b.toArray⟩ : Str) = _
        simp
      rw [e]; exact .p (.str _ _)
theorem l_lower {l m : List Nat} {t : Tok} (e : lower1 l = some m) (h : ∀ u s', Kp s s' → RepV φ s'.heap u (.p (.str m)) → Q u s') : wpAny (model prog w) A (call (.builtin "str.lower") [.str ⟨l.toArray⟩ t]) Q E s := by
  obtain ⟨e1, e2⟩ := lower_one e
  refine SC.lower (by rw [e1]; simp only [Str.length, List.size_toArray, e2]; decide) ?_
  rw [e1]
  exact h _ _ (Kp.toks _ _) (.p (.str m _))
theorem glued_join : ∀ (sep : List Nat) (ss : List (List Nat)), Txt.join ⟨sep.toArray⟩ (ss.map fun x => ⟨x.toArray⟩) = ⟨(joinL sep ss).toArray⟩ := by
  intro sep ss
  have go : ∀ (r : List (List Nat)) (acc : List Nat), (r.map fun x => (⟨x.toArray⟩ : Str)).foldl (fun (acc : Array Nat) p => acc ++ (⟨sep.toArray⟩ : Str).cps ++ p.cps) acc.toArray = (r.foldl (fun acc p => acc ++ sep ++ p) acc).toArray := by
    intro r
    induction r with
    | nil => intro acc; rfl
    | cons x r ih =>
      intro acc
      simp only [List.map_cons, List.foldl_cons]
      rw [show (acc.toArray ++ sep.toArray ++ x.toArray) = (acc ++ sep ++ x).toArray by simp]
      exact ih _
  have jo : ∀ (r : List (List Nat)) (x : List Nat), r.foldl (fun acc p => acc ++ sep ++ p) x = joinL sep (x :: r) := by
    intro r
    induction r with
    | nil => intro x; rfl
    | cons y r ih =>
      intro x
      rw [List.foldl_cons, ih]
      have aux : ∀ (r : List (List Nat)) (p q : List Nat), joinL sep ((p ++ q) :: r) = p ++ joinL sep (q :: r) := by
        intro r p q
        cases r with
        | nil => rfl
        | cons z r => simp [joinL]
      rw [aux]
      simp [joinL]
  show (⟨_⟩ : Str) = _
  cases ss with
  | nil => rfl
  | cons x r =>
    have := go r x
    have h2 := jo r x
    simp only [List.map_cons, List.drop_succ_cons, List.drop_zero, List.headD_cons]
    rw [this, h2]
theorem strs_rep {χ : List Addr} {h : Heap} {vs : List Value} {l : List D} (r : RepA χ h vs l) : ∀ {ss : List (List Nat)}, strs? l = some ss → StrsAre vs (ss.map fun x => ⟨x.toArray⟩) :=
  r.ind (M := fun vs l => ∀ {ss : List (List Nat)}, strs? l = some ss → StrsAre vs (ss.map fun x => ⟨x.toArray⟩)) (fun e => Option.some.inj e ▸ .nil) fun v d vs l a _ ih is e => bk e fun i ei e => mk' e fun is' e1 e2 => by
    obtain ⟨t, rfl⟩ := repD_str (dStr ei ▸ a)
    exact e2 ▸ .cons _ t (ih e1)
theorem l_join {hb : Heap} {σ : Sto} {sep : List Nat} {t : Tok} {x : V} {u : Value} {l : List D} {ss : List (List Nat)} (O : StoOk hb φ σ s.heap) (r : RepV φ s.heap u x) (el : lst? σ x = some l) (es : strs? l = some ss) (hz : (ss.map List.length).sum + ss.length * sep.length ≤ 16777216)
    (h : ∀ u s', Kp s s' → RepV φ s'.heap u (.p (.str (joinL sep ss))) → Q u s') : wpAny (model prog w) A (call (.builtin "str.join") [.str ⟨sep.toArray⟩ t, u]) Q E s := by
  obtain ⟨p, vs, hx, ra⟩ := lst_rep O r el
  refine join_list hx (ys := ss.map fun x => ⟨x.toArray⟩) (strs_rep ra es) ?_ fun t' k => h _ _ (Kp.toks _ _) ?_
  · rw [List.map_map, List.length_map]
    have : (Str.length ∘ fun x : List Nat => (⟨x.toArray⟩ : Str)) = List.length := by funext x; simp [Str.length]
    rw [this]
    simpa [Str.length] using hz
  · rw [glued_join]; exact .p (.str _ _)
end
-- S28
section
variable {prog : Program} {w : World} {A : Around} {φ : Ap} {s : Shared} {Q : Value → Shared → Prop} {E : Value → Shared → Prop}
open Builtin Builtin._codecs in
theorem encode_tree (x : Str) (t u : Tok) : Builtin.«str.encode» ⟨[.str x t, .str ⟨latin.toArray⟩ u], []⟩ = (do ret (← (do mkBytes (← encodeNarrow "str.encode" latin1Codec none (.str x t) x)))) := by
  kernel_rfl
theorem wp_loop {β : Type} {f : Nat → β → Sem (ForInStep β)} {b b1 : β} (h0 : ∀ {Q : ForInStep β → Shared → Prop}, Q (.yield b1) s → wpAny (model prog w) A (f 0 b) Q E s) (h1 : ∀ {Q : ForInStep β → Shared → Prop} (k : Nat), Q (.done b1) s → wpAny (model prog w) A (f k b1) Q E s) (n : Nat) {Q : β → Shared → Prop} (h : Q b1 s) :
    wpAny (model prog w) A (forIn (List.range' 0 (n + 1) 1) b f) Q E s := by
  rw [List.range'_succ, List.forIn_cons]
  refine wpAny_bind (h0 ?_)
  cases n with
  | zero => exact wpAny_pure h
  | succ n =>
    show wpAny (model prog w) A (forIn (List.range' (0 + 1) (n + 1) 1) b1 f) Q E s
    rw [List.range'_succ, List.forIn_cons]
    exact wpAny_bind (h1 _ (wpAny_pure h))
open Builtin Builtin._codecs in
theorem latin_out (l : List Nat) : Array.foldl (fun acc y => acc ++ (latin1Codec.bytesOf y).toArray) #[] ((l.toArray.extract 0 l.toArray.size).extract 0 l.toArray.size) = (l.map Nat.toUInt8).toArray := by
  rw [Array.extract_size, Array.extract_size]
  have go : ∀ (l : List Nat) (acc : Array UInt8), l.foldl (fun acc y => acc ++ (latin1Codec.bytesOf y).toArray) acc = acc ++ (l.map Nat.toUInt8).toArray := by
    intro l
    induction l with
    | nil => intro acc; simp
    | cons y l ih =>
      intro acc
      rw [List.foldl_cons, ih]
      show acc ++ #[y.toUInt8] ++ _ = _
      simp
  rw [List.foldl_toArray, go]; simp
open Builtin Builtin._codecs in
theorem latin_ok {l : List Nat} (hl : l.all (· < 256) = true) (y : Nat) (hy : y ∈ l) : latin1Codec.bad y = false :=
  decide_eq_false (Nat.not_le.mpr (of_decide_eq_true (List.all_eq_true.mp hl y hy)))
open Builtin Builtin._codecs in
theorem latin_clean {l : List Nat} (hl : l.all (· < 256) = true) : ((l.toArray.extract 0 l.toArray.size).findIdx? latin1Codec.bad).getD (l.toArray.extract 0 l.toArray.size).size = l.toArray.size := by
  rw [Array.extract_size, Array.findIdx?_eq_none_iff.mpr (fun y hy => latin_ok hl y (List.mem_toArray.mp hy))]; rfl
theorem wp_yes {β : Type} {c : Prop} [Decidable c] {x y : Sem β} {Q : β → Shared → Prop} (hc : c) (h : wpAny (model prog w) A x Q E s) : wpAny (model prog w) A (if c then x else y) Q E s := by
  rw [if_pos hc]; exact h
open Builtin Builtin._codecs in
theorem latin_neg {c : Nat} (h : latin1Codec.bad c = false) : (!latin1Codec.bad c) = true := by rw [h]; rfl
open Builtin Builtin._codecs in
theorem narrow_ok (id : String) (self : Value) (l : List Nat) (hl : l.all (· < 256) = true) (hz : l.length ≤ 16777216) {Q : Array UInt8 → Shared → Prop} (h : Q (l.map Nat.toUInt8).toArray s) :
    wpAny (model prog w) A (encodeNarrow id latin1Codec none self ⟨l.toArray⟩) Q E s := by
  unfold encodeNarrow
  refine wpAny_bind ?_
  rw [KPc.range_list]
  cases l with
  | nil => exact wpAny_pure (wpAny_pure h)
  | cons c r =>
    have hsz : ¬ ((#[] : Array UInt8).size > sizeLine) := by rw [sizeLine_eq]; exact Nat.not_lt_zero _
    have hsz2 : ¬ (((c :: r).map Nat.toUInt8).toArray.size > sizeLine) := by rw [sizeLine_eq, List.size_toArray, List.length_map]; exact Nat.not_lt.mpr hz
    have hx1 : (c :: r).toArray[(c :: r).toArray.size]? = none := Array.getElem?_eq_none (Nat.le_refl _)
    have hbad := latin_ok hl c List.mem_cons_self
    have hcl := latin_clean hl
    have hout := latin_out (c :: r)
    refine wp_loop (b1 := ((c :: r).toArray.size, ((c :: r).map Nat.toUInt8).toArray, {})) (fun {Q'} hQ => wpAny_ite (KPc.ite_no hsz (wp_yes (latin_neg hbad) (wpAny_pure ?_)))) (fun k {Q'} hQ => wpAny_ite (KPc.ite_no hsz2 (by rw [hx1]; exact wpAny_pure hQ))) r.length (wpAny_pure h)
    · refine Eq.mpr (congrArg (fun z => Q' (ForInStep.yield z) s) ?_) hQ
      exact Prod.ext ((Nat.zero_add _).trans hcl) (Prod.ext ((congrArg (fun n => Array.foldl (fun acc y => acc ++ (latin1Codec.bytesOf y).toArray) #[] (((c :: r).toArray.extract 0 (c :: r).toArray.size).extract 0 n)) hcl).trans hout) rfl)
open Builtin in
theorem l_encode {l : List Nat} {t u : Tok} (hl : l.all (· < 256) = true) (hz : l.length ≤ 16777216) (h : ∀ v s', Kp s s' → RepV φ s'.heap v (.p (.bytes l)) → Q v s') :
    wpAny (model prog w) A (call (.builtin "str.encode") [.str ⟨l.toArray⟩ t, .str ⟨latin.toArray⟩ u]) Q E s := by
  refine wpAny_call_entry PySem.F.slot_str_encode (typeIs_str s _ t) PySem.F.entry_str_encode ?_ (PySem.F.args_str_encode_2 _ _)
  rw [encode_tree]
  refine wpAny_bind (wpAny_bind (narrow_ok _ _ l hl hz (wpAny_mkBytes (wpAny_pure ⟨_, rfl, ?_⟩) ?_)))
  · have : RepD φ.all s.heap (.bytes (l.map Nat.toUInt8).toArray s.toks) (.bytes ((l.map Nat.toUInt8).toArray.toList.map (·.toNat))) := .bytes _ _
    have e1 : (l.map Nat.toUInt8).toArray.toList.map (·.toNat) = l := by
      simp only [List.toList_toArray, List.map_map]
      conv => rhs; rw [← List.map_id l]
      refine List.map_congr_left fun n hn => ?_
      have := List.all_eq_true.mp hl n hn
      have : n < 256 := by simpa using this
      show (n.toUInt8).toNat = n
      rw [Nat.toUInt8_eq, UInt8.toNat_ofNat']
      omega
    rw [e1] at this
    exact h _ _ (Kp.toks _ _) (.p this)
  · rw [sizeLine_eq]; simpa using hz
end
-- S29
section
variable {prog : Program} {w : World} {A : Around} {φ : Ap} {s : Shared} {Q : Value → Shared → Prop} {E : Value → Shared → Prop}
open Builtin Builtin.Bytes
theorem dropWhile_map (l : List UInt8) : (l.map UInt8.toNat).dropWhile isWs = (l.dropWhile isSpace).map UInt8.toNat ∧ (l.map UInt8.toNat).dropWhile (!isWs ·) = (l.dropWhile (!isSpace ·)).map UInt8.toNat ∧ (l.map UInt8.toNat).takeWhile (!isWs ·) = (l.takeWhile (!isSpace ·)).map UInt8.toNat := by
  have key : ∀ c : UInt8, isWs c.toNat = isSpace c := by
    intro c
    unfold isWs isSpace
    rw [Bool.eq_iff_iff]
    simp only [Bool.or_eq_true, Bool.and_eq_true, decide_eq_true_eq, beq_iff_eq, UInt8.le_iff_toNat_le]
    have : c = 32 ↔ c.toNat = 32 := by rw [← UInt8.toNat_inj]; rfl
    rw [this]
    show (9 ≤ c.toNat ∧ c.toNat ≤ 13) ∨ c.toNat = 32 ↔ c.toNat = 32 ∨ 9 ≤ c.toNat ∧ c.toNat ≤ 13
    omega
  induction l with
  | nil => exact ⟨rfl, rfl, rfl⟩
  | cons c r ih =>
    obtain ⟨i1, i2, i3⟩ := ih
    simp only [List.map_cons, List.dropWhile_cons, List.takeWhile_cons, key c]
    cases isSpace c <;> simp [i1, i2, i3]
theorem words_map : ∀ (n : Nat) (l : List UInt8), splitWs n (l.map UInt8.toNat) = (words n n l).map fun w => w.map UInt8.toNat
  | 0, _ => rfl
  | n + 1, l => by
    unfold splitWs words
    rw [(dropWhile_map l).1]
    cases l.dropWhile isSpace with
    | nil => rfl
    | cons c r =>
      have h := dropWhile_map (c :: r)
      simp only [List.map_cons] at h ⊢
      rw [h.2.1, h.2.2, words_map n]
      simp
theorem mapM_new {hb : Heap} {σ : Sto} : ∀ (ws : List (List UInt8)) {s : Shared} {Q : List Value → Shared → Prop}, (∀ x ∈ ws, x.length ≤ 16777216) → (∀ vs s', Kp s s' → RepA φ.all s'.heap vs (ws.map fun w => .bytes (w.map UInt8.toNat)) → Q vs s') →
    wpAny (model prog w) A (ws.mapM fun x => Kind.bytes.new x.toArray) Q E s
  | [], s, Q, _, h => by
    rw [List.mapM_nil]
    exact wpAny_pure (h [] s (Kp.refl s) .nil)
  | x :: ws, s, Q, hz, h => by
    rw [List.mapM_cons]
    refine wpAny_bind ?_
    show wpAny _ _ (mkBytes x.toArray) _ _ _
    refine wpAny_mkBytes ?_ (by rw [sizeLine_eq]; simpa using hz x List.mem_cons_self)
    have k := Kp.toks s (s.toks + 1)
    refine wpAny_bind (mapM_new (hb := hb) (σ := σ) ws (fun y hy => hz y (List.mem_cons_of_mem _ hy)) fun vs s' k' r => wpAny_pure (h _ s' (k.trans k') (.cons ?_ r)))
    have : RepD φ.all s'.heap (.bytes x.toArray s.toks) (.bytes (x.toArray.toList.map (·.toNat))) := .bytes _ _
    simpa using this
theorem words_len : ∀ (n k : Nat) (l : List UInt8), (words n k l).length ≤ n ∧ ∀ x ∈ words n k l, x.length ≤ l.length
  | 0, _, _ => ⟨Nat.le_refl _, fun x h => by cases h⟩
  | n + 1, k, l => by
    unfold words
    have hd : (l.dropWhile isSpace).length ≤ l.length := (List.dropWhile_sublist _).length_le
    split
    · exact ⟨Nat.zero_le _, fun x h => by cases h⟩
    · split
      · exact ⟨by simp, fun x h => by rw [List.mem_singleton] at h; subst h; exact hd⟩
      · obtain ⟨a, b⟩ := words_len n (k - 1) ((l.dropWhile isSpace).dropWhile (!isSpace ·))
        refine ⟨by simp; omega, fun x h => ?_⟩
        rcases List.mem_cons.mp h with rfl | h
        · exact Nat.le_trans ((List.takeWhile_sublist _).length_le) hd
        · exact Nat.le_trans (b x h) (Nat.le_trans ((List.dropWhile_sublist _).length_le) hd)
theorem tw_all {α : Type} {p : α → Bool} : ∀ {l : List α}, (∀ c ∈ l, p c = true) → l.takeWhile p = l ∧ l.dropWhile p = []
  | [], _ => ⟨rfl, rfl⟩
  | c :: r, h => by
    obtain ⟨a, b⟩ := tw_all (l := r) (p := p) fun x hx => h x (List.mem_cons_of_mem _ hx)
    rw [List.takeWhile_cons, List.dropWhile_cons, h c List.mem_cons_self]
    exact ⟨by simp [a], by simp [b]⟩
theorem words_one {l : List UInt8} (h0 : l.isEmpty = false) (h1 : l.any isSpace = false) : words (l.length + 1) (l.length + 1) l = [l] := by
  have hall : ∀ c ∈ l, isSpace c = false := fun c hc => by
    have := List.any_eq_false.mp h1 c hc
    simpa using this
  have e1 : l.dropWhile isSpace = l := by
    cases l with
    | nil => rfl
    | cons c r => rw [List.dropWhile_cons, hall c List.mem_cons_self]; rfl
  obtain ⟨e2, e3⟩ := tw_all (p := (!isSpace ·)) (l := l) fun c hc => by simp [hall c hc]
  unfold words
  rw [e1]
  cases l with
  | nil => cases h0
  | cons c r =>
    simp only [e2, e3, List.length_cons]
    cases r with
    | nil => simp [words]
    | cons d r => simp [words]
theorem l_split {hb : Heap} {σ : Sto} (O : StoOk hb φ σ s.heap) {b : Array UInt8} {t : Tok} (hz : b.size ≤ 16777215) (h : ∀ v s', Kp s s' → RepV φ s'.heap v (.p (.list ((splitWs (b.toList.length + 1) (b.toList.map (·.toNat))).map .bytes))) → Q v s') :
    wpAny (model prog w) A (call (.builtin "bytes.split") [.bytes b t]) Q E s := by
  rw [words_map] at h
  refine wpAny_call_entry slot_bytes_split (typeIs_bytes s b t) entry_bytes_split ?_ (args_bytes_split _)
  show wpAny _ _ (splitM .bytes "split" false _) _ _ _
  unfold splitM
  refine wpAny_bind (wpAny_of_eq (a := [none, none]) rfl ?_)
  refine wpAny_bind (wpAny_pure ?_)
  refine wpAny_bind (wpAny_of_eq (a := b) rfl ?_)
  refine wpAny_bind (wpAny_rule ?_)
  have elim : (if (-1 : Int) < 0 then b.size + 1 else (-1 : Int).toNat) = b.toList.length + 1 := by simp
  have hl : b.size + 1 = b.toList.length + 1 := by simp
  rw [elim]
  refine wpAny_ite ?_
  split
  · rename_i hc
    simp only [Bool.and_eq_true, decide_eq_true_eq, Bool.not_eq_true'] at hc
    have w1 : words (b.toList.length + 1) (b.toList.length + 1) b.toList = [b.toList] := words_one (by simpa [Array.isEmpty, List.isEmpty_iff] using hc.1.2) (by simpa using hc.2)
    rw [w1] at h
    refine wpAny_bind ?_
    show wpAny _ _ ((typeOf (.bytes b t) >>= fun _ => _) : Sem Value) _ _ _
    refine wpAny_bind (wpAny_typeOf (typeIs_bytes s b t) ?_)
    rw [if_pos (by decide)]
    refine wpAny_pure (wpAny_bind (wpAny_newList (wpAny_pure ⟨_, rfl, h _ _ (Kp.push' _ _) (.p (newList_rep O (.cons (.bytes b t) .nil)))⟩)))
  · rw [if_neg (by decide), hl]
    refine wpAny_bind (mapM_new (hb := hb) (σ := σ) (φ := φ) _ (fun x hx => ?_) fun vs s' k r => ?_)
    · have := (words_len _ _ _).2 x hx
      have e : b.toList.length = b.size := by simp
      omega
    · have hlen : vs.length ≤ sizeLine := by
        rw [r.length, List.length_map, sizeLine_eq]
        have := (words_len (b.toList.length + 1) (b.toList.length + 1) b.toList).1
        have e : b.toList.length = b.size := by simp
        omega
      refine wpAny_bind (wpAny_newList (wpAny_pure ⟨_, rfl, h _ _ (k.trans (Kp.push' _ _)) (.p (newList_rep (O.kp k) ?_))⟩) (by simpa using hlen))
      rw [List.map_map]
      exact r
end
-- S30
open PySem.Sre
theorem runFor_done {m : Sre.M} (h : m.outcome.isSome = true) : ∀ n, Sre.M.runFor n m = m
  | 0 => rfl
  | n + 1 => by unfold Sre.M.runFor; rw [if_pos h]
theorem runFor_add : ∀ (a b : Nat) (m : Sre.M), Sre.M.runFor (a + b) m = Sre.M.runFor b (Sre.M.runFor a m)
  | 0, b, m => by rw [Nat.zero_add]; rfl
  | a + 1, b, m => by
    have e : a + 1 + b = (a + b) + 1 := by omega
    rw [e]
    by_cases h : m.outcome.isSome = true
    · rw [runFor_done h, runFor_done h, runFor_done h]
    · show (if m.outcome.isSome = true then m else Sre.M.runFor (a + b) m.step) = Sre.M.runFor b (if m.outcome.isSome = true then m else Sre.M.runFor a m.step)
      rw [if_neg h, if_neg h, runFor_add a b m.step]
section
variable {prog : Program} {w : World} {A : Around} {φ : Ap} {s : Shared} {E : Value → Shared → Prop}
open Builtin Builtin.Re
theorem drive_ok {m' : Sre.M} (hd : m'.outcome.isSome = true) {Q : Sre.M → Shared → Prop} (h : Q m' s) : ∀ (turns n : Nat) (m : Sre.M), Sre.M.runFor n m = m' → n ≤ 4 * turns → 1 ≤ turns → wpAny (model prog w) A (reDrive turns m) Q E s
  | 0, _, _, _, _, h1 => by omega
  | t + 1, n, m, hr, hn, _ => by
    unfold reDrive
    by_cases h4 : n ≤ 4
    · have e : Sre.M.runFor reTurnSteps m = m' := by
        have : reTurnSteps = n + (4 - n) := by show 4 = _; omega
        rw [this, runFor_add, hr, runFor_done hd]
      rw [e]
      exact wpAny_ite (by rw [if_pos hd]; exact wpAny_pure h)
    · have e : Sre.M.runFor (n - 4) (Sre.M.runFor reTurnSteps m) = m' := by
        rw [← runFor_add]
        have : reTurnSteps + (n - 4) = n := by show 4 + _ = _; omega
        rw [this]; exact hr
      by_cases ho : (Sre.M.runFor reTurnSteps m).outcome.isSome = true
      · rw [runFor_done ho] at e
        exact wpAny_ite (by rw [if_pos ho, e]; exact wpAny_pure h)
      · refine wpAny_ite ?_
        rw [if_neg ho]
        exact wpAny_bind (wpAny_rule (drive_ok hd h t (n - 4) _ e (by omega) (by omega)))
theorem rules_loop {seen : Sre.Seen} {Q : PUnit → Shared → Prop} (h : Q ⟨⟩ s) : ∀ (l : List Nat), wpAny (model prog w) A (forIn l PUnit.unit fun i _ => do
    if seen.has i then rule (Sre.names.getD i "")
    pure (ForInStep.yield PUnit.unit)) Q E s
  | [] => wpAny_pure h
  | i :: l => by
    rw [List.forIn_cons]
    refine wpAny_bind ?_
    by_cases hi : seen.has i = true
    · rw [if_pos hi]
      exact wpAny_bind (wpAny_rule (wpAny_pure (rules_loop h l)))
    · rw [if_neg hi]
      exact wpAny_pure (rules_loop h l)
theorem run_end {n : Nat} {m m' : Sre.M} (hr : Sre.M.runFor n m = m') (hn : n ≤ 4 * 2 ^ 64) (hd : m'.outcome = some .matched ∨ m'.outcome = some .failed) {Q : Option Sre.M → Shared → Prop} (h : Q (match m'.outcome with | some .matched => some m' | _ => none) s) :
    wpAny (model prog w) A (reRunToEnd m) Q E s := by
  unfold reRunToEnd
  refine wpAny_bind (drive_ok (by rcases hd with hd | hd <;> rw [hd] <;> rfl) ?_ _ n m hr hn (by decide))
  refine wpAny_bind ?_
  first
    | refine rules_loop ?_ _
    | skip
  rcases hd with hd | hd
  · rw [hd] at h ⊢
    exact wpAny_pure h
  · rw [hd] at h ⊢
    exact wpAny_pure h
end
-- S31
open PySem.Sre
inductive PatAt (h : Heap) (a : Addr) (kind groups : Nat) (code : List Nat) (d : Value) : Prop
  | mk (f0 f1 f4 : Value) (cl : Addr) (t2 t6 : Tok) (e : h.get? a = some { cls := .type "re.Pattern", data := .fields #[f0, f1, .int groups t2, d, f4, .ref cl, .int kind t6] })
      (o : Obj) (n : Nat) (ts : List Tok) (e1 : h.get? cl = some o) (e2 : o.data = .seq ((code.zip ts).map fun p => Value.int p.1 p.2).toArray n) (e3 : ts.length = code.length)
theorem PatAt.keeps {h h' : Heap} {a : Addr} {kind groups : Nat} {code : List Nat} {d : Value} (x : PatAt h a kind groups code d) (k : ∀ b o, h.get? b = some o → h'.get? b = some o) : PatAt h' a kind groups code d := by
  cases x with
  | mk f0 f1 f4 cl t2 t6 e o n ts e1 e2 e3 => exact ⟨f0, f1, f4, cl, t2, t6, k _ _ e, o, n, ts, k _ _ e1, e2, e3⟩
section
variable {prog : Program} {w : World} {A : Around} {φ : Ap} {s : Shared} {E : Value → Shared → Prop}
open Builtin Builtin.Re
theorem named_one (id f : String) (v : Value) : reNamed id f ["string", "pos", "endpos"] 1 [v] [] = pure [some v, none, none] := by
  first | rfl | kernel_rfl
theorem rawItems_code {cl : Addr} {o : Obj} {n : Nat} {code : List Nat} {ts : List Tok} (ho : s.heap.get? cl = some o) (hd : o.data = .seq ((code.zip ts).map fun p => Value.int p.1 p.2).toArray n) (hts : ts.length = code.length) {Q : Array Int → Shared → Prop} (h : Q (code.map Int.ofNat).toArray s) :
    wpAny (model prog w) A (reRawItems (.ref cl)) Q E s := by
  unfold reRawItems
  refine wpAny_bind (wpAny_seqItems ho hd (wpAny_pure ?_))
  have e : (((code.zip ts).map fun p => Value.int p.1 p.2).toArray.map reRawOf) = (code.map Int.ofNat).toArray := by
    simp only [List.map_toArray, List.map_map]
    congr 1
    have : ∀ (code : List Nat) (ts : List Tok), ts.length = code.length → (code.zip ts).map (reRawOf ∘ fun p => Value.int p.1 p.2) = code.map Int.ofNat := by
      intro code
      induction code with
      | nil => intro ts _; rfl
      | cons c r ih =>
        intro ts hl
        cases ts with
        | nil => simp at hl
        | cons t ts => simp only [List.zip_cons_cons, List.map_cons, ih ts (by simpa using hl)]; rfl
    exact this code ts hts
  show Q ((Option.getD (some _) #[]).map reRawOf) s
  rw [Option.getD_some, e]; exact h
theorem target_str {a : Addr} {groups : Nat} {code : List Nat} {d : Value} (P : PatAt s.heap a 0 groups code d) (id f : String) (x : Str) (t : Tok) (hx : x.cps.size ≤ 16777216) {Q : ReTarget → Shared → Prop}
    (h : Q { pattern := .ref a, string := .str x t, code := code.toArray, text := x.cps, kind := 0, groups := groups, pos := 0, lim := x.cps.size } s) :
    wpAny (model prog w) A (reTarget id f ⟨[.ref a, .str x t], []⟩) Q E s := by
  obtain ⟨f0, f1, f4, cl, t2, t6, e, o, n, ts, e1, e2, e3⟩ := P
  unfold reTarget
  refine wpAny_bind (wpAny_of_eq (named_one id f _) ?_)
  refine wpAny_bind (wpAny_pure (wpAny_bind (wpAny_pure (wpAny_bind (wpAny_fieldsOf e rfl ?_)))))
  refine wpAny_bind (wpAny_of_eq (a := (x.cps, 0)) rfl ?_)
  dsimp only
  refine wpAny_ite (KPc.ite_no Bool.false_ne_true (wpAny_ite (KPc.ite_no Bool.false_ne_true ?_)))
  refine wpAny_bind (wpAny_of_eq (a := ()) rfl ?_)
  refine wpAny_bind (rawItems_code e1 e2 e3 (wpAny_pure ?_))
  have ec : ((code.map Int.ofNat).toArray.map (·.toNat)) = code.toArray := by
    simp only [List.map_toArray, List.map_map]
    congr 1
    exact (List.map_congr_left fun c _ => by simp).trans (List.map_id code)
  have e0 : min (0 : Int).toNat x.cps.size = 0 := by simp
  have e9 : min ((2 : Int) ^ 63 - 1).toNat x.cps.size = x.cps.size := by
    have : ((2 : Int) ^ 63 - 1).toNat = 9223372036854775807 := by decide
    omega
  rw [ec, e0, e9]
  exact h
theorem sub_bytes_bytes : isSubtype (.type "bytes") (.type "bytes") = pure true := by rw [isSubtype_type]; kernel_rfl
theorem target_bytes {a : Addr} {groups : Nat} {code : List Nat} {d : Value} (P : PatAt s.heap a 1 groups code d) (id f : String) (b : Array UInt8) (t : Tok) (hx : b.size ≤ 16777216) {Q : ReTarget → Shared → Prop}
    (h : Q { pattern := .ref a, string := .bytes b t, code := code.toArray, text := b.map (·.toNat), kind := 1, groups := groups, pos := 0, lim := b.size } s) :
    wpAny (model prog w) A (reTarget id f ⟨[.ref a, .bytes b t], []⟩) Q E s := by
  obtain ⟨f0, f1, f4, cl, t2, t6, e, o, n, ts, e1, e2, e3⟩ := P
  unfold reTarget
  refine wpAny_bind (wpAny_of_eq (named_one id f _) ?_)
  refine wpAny_bind (wpAny_pure (wpAny_bind (wpAny_pure (wpAny_bind (wpAny_fieldsOf e rfl ?_)))))
  refine wpAny_bind (m := reTextOf (.bytes b t)) ?_
  unfold reTextOf
  refine wpAny_bind (wpAny_of_eq (a := none) rfl ?_)
  refine wpAny_bind (wpAny_of_eq KBy.quiet_eq (wpAny_pure ?_))
  dsimp only
  refine wpAny_ite (KPc.ite_no Bool.false_ne_true (wpAny_ite (KPc.ite_no Bool.false_ne_true ?_)))
  refine wpAny_bind ?_
  unfold reNoCollectionInside
  refine wpAny_ite ?_
  rw [if_pos (by decide)]
  refine wpAny_bind (wpAny_isInstance (T := "bytes") (b := true) (typeIs_bytes s b t) sub_bytes_bytes ?_)
  refine wpAny_ite (KPc.ite_no Bool.false_ne_true (wpAny_pure ?_))
  refine wpAny_bind (rawItems_code e1 e2 e3 (wpAny_pure ?_))
  have ec : ((code.map Int.ofNat).toArray.map (·.toNat)) = code.toArray := by
    simp only [List.map_toArray, List.map_map]
    congr 1
    exact (List.map_congr_left fun c _ => by simp).trans (List.map_id code)
  have hsz : (b.map (·.toNat)).size = b.size := by simp
  have e0 : min (0 : Int).toNat (b.map (·.toNat)).size = 0 := by simp
  have e9 : min ((2 : Int) ^ 63 - 1).toNat (b.map (·.toNat)).size = b.size := by
    have : ((2 : Int) ^ 63 - 1).toNat = 9223372036854775807 := by decide
    rw [hsz]
    omega
  rw [ec, e0, e9]
  exact h
end
-- S32
open PySem.Sre
theorem name_set {c : Nat} (h : bad 1 c = false) (seen : Sre.Seen) : ∃ seen', inSet nameCode.toArray c 20 5 true seen = .ok (false, seen') := by
  have h1 : inSet nameCode.toArray c 20 5 true seen = if (0 ≤ c && c ≤ 31) = true then .ok (true, seen.add 22) else inSet nameCode.toArray c 19 8 true (seen.add 22) := rfl
  have h2 : ∀ s, inSet nameCode.toArray c 19 8 true s = if (c == 127) = true then .ok (true, s.add 16) else inSet nameCode.toArray c 18 10 true (s.add 16) := fun _ => rfl
  have h3 : ∀ s, inSet nameCode.toArray c 18 10 true s = .ok (false, s.add 0) := fun _ => rfl
  simp only [bad, show ((1 : Nat) == 1) = true from rfl, if_true, Bool.or_eq_false_iff, decide_eq_false_iff_not, beq_eq_false_iff_ne] at h
  rw [h1, if_neg (by simp; omega), h2, if_neg (by simpa using h.2), h3]
  exact ⟨_, rfl⟩
theorem value_bits : ((List.range 256).all fun c => bad 2 c || !((valueCode.toArray.getD (5 + (1 + c / 32)) 0).testBit (c % 32))) = true := by decide +kernel
theorem value_set {c : Nat} (h : bad 2 c = false) (seen : Sre.Seen) : ∃ seen', inSet valueCode.toArray c 28 5 true seen = .ok (false, seen') := by
  have h1 : inSet valueCode.toArray c 28 5 true seen = if (c < 256 && (valueCode.toArray.getD (5 + (1 + c / 32)) 0).testBit (c % 32)) = true then .ok (true, seen.add 9) else inSet valueCode.toArray c 27 14 true (seen.add 9) := rfl
  have h3 : ∀ s, inSet valueCode.toArray c 27 14 true s = .ok (false, s.add 0) := fun _ => rfl
  rw [h1, if_neg, h3]
  · exact ⟨_, rfl⟩
  · intro hc
    simp only [Bool.and_eq_true, decide_eq_true_eq] at hc
    have := List.all_eq_true.mp value_bits c (List.mem_range.mpr hc.1)
    rw [h, hc.2] at this
    cases this
theorem admitted_none {m : M} {code : List Nat} (hc : m.code = code.toArray) (hno : ∀ s, s < m.lim → ∀ seen, ∃ seen', inSet code.toArray (m.text.getD s 0) code.length 5 true seen = .ok (false, seen')) : ∀ (fuel s : Nat) (seen : Sre.Seen), ∃ seen', M.admitted m fuel s seen = .ok (none, seen')
  | 0, _, _ => ⟨_, rfl⟩
  | fuel + 1, s, seen => by
    unfold M.admitted
    by_cases hs : s ≥ m.lim
    · rw [if_pos hs]; exact ⟨_, rfl⟩
    · rw [if_neg hs]
      obtain ⟨seen', e⟩ := hno s (by omega) seen
      have hsz : code.toArray.size = code.length := by simp
      rw [hc, hsz, e]
      exact admitted_none hc hno fuel (s + 1) seen'
theorem say_no {m : M} (hf : m.frames = []) (ho : m.outcome = none) : (M.runFor 1 (m.say false)).outcome = some .failed := by
  have h1 : (m.say false).outcome.isSome = false := by show m.outcome.isSome = false; rw [ho]; rfl
  show (if (m.say false).outcome.isSome = true then m.say false else M.runFor 0 (m.say false).step).outcome = _
  rw [if_neg (by rw [h1]; simp)]
  show ((m.say false).step).outcome = _
  unfold M.step
  rw [if_neg (by rw [h1]; simp)]
  have e1 : (m.say false).answer = some false := rfl
  have e2 : (m.say false).frames = [] := hf
  rw [e1, e2]
  rfl
theorem attempt_fail {m : M} {code : List Nat} {s : Nat} {first : Bool} (hc : m.code = code.toArray) (hfs : m.hasFirstSet = true) (hf : m.frames = []) (ho : m.outcome = none) (hno : ∀ s, s < m.lim → ∀ seen, ∃ seen', inSet code.toArray (m.text.getD s 0) code.length 5 true seen = .ok (false, seen')) :
    (M.runFor 1 (m.attemptFrom s first)).outcome = some .failed := by
  obtain ⟨seen', e⟩ := admitted_none hc hno (m.lim + 1 - s) s m.seen
  unfold M.attemptFrom
  rw [hfs, e]
  exact say_no (m := { m with seen := seen' }) hf ho
theorem search_end {code : List Nat} {k : Nat} (hk : (k = 1 ∧ code = nameCode) ∨ (k = 2 ∧ code = valueCode)) {l : List Nat} (h : l.any (bad k) = false) : ∃ m', M.runFor 1 (forSearch code.toArray l.toArray 0 0 l.toArray.size false) = m' ∧ m'.outcome = some .failed := by
  have hall : ∀ s, s < l.toArray.size → bad k (l.toArray.getD s 0) = false := fun s hs => by
    have hs : s < l.length := by simpa using hs
    have := List.any_eq_false.mp h l[s] (List.getElem_mem hs)
    simpa [Array.getD, hs] using this
  have hno : ∀ s, s < l.toArray.size → ∀ seen, ∃ seen', inSet code.toArray (l.toArray.getD s 0) code.length 5 true seen = .ok (false, seen') := fun s hs seen => by
    rcases hk with ⟨rfl, rfl⟩ | ⟨rfl, rfl⟩
    · exact name_set (hall s hs) seen
    · exact value_set (hall s hs) seen
  refine ⟨_, rfl, ?_⟩
  unfold forSearch
  dsimp only
  split
  · exact say_no rfl rfl
  · refine attempt_fail (code := code) rfl ?_ rfl rfl hno
    rcases hk with ⟨rfl, rfl⟩ | ⟨rfl, rfl⟩ <;> rfl
section
variable {prog : Program} {w : World} {A : Around} {φ : Ap} {s : Shared} {Q : Value → Shared → Prop} {E : Value → Shared → Prop}
open Builtin Builtin.Re
theorem l_search {code : List Nat} {k : Nat} {d : Value} {a : Addr} (hk : (k = 1 ∧ code = nameCode) ∨ (k = 2 ∧ code = valueCode)) (P : PatAt s.heap a 0 0 code d) {l : List Nat} {t : Tok} (h : l.any (bad k) = false) (hl : l.length ≤ 16777216) (hq : Q .none s) :
    wpAny (model prog w) A (call (.builtin "re.Pattern.search") [.ref a, .str ⟨l.toArray⟩ t]) Q E s := by
  have hT : s.TypeIs (.ref a) "re.Pattern" := by
    obtain ⟨_, _, _, _, _, _, e⟩ := P
    exact ⟨_, e, rfl⟩
  refine wpAny_call_entry slot_pat_search hT entry_pat_search ?_ (args_pat_search _ _)
  show wpAny _ _ (reTarget "re.Pattern.search" "search" _ >>= fun t => reAnswer t (Sre.forSearch t.code t.text t.groups t.pos t.lim false)) _ _ _
  refine wpAny_bind (target_str P _ _ _ _ (by simpa using hl) ?_)
  obtain ⟨m', hr, ho⟩ := search_end hk h
  unfold reAnswer
  refine wpAny_bind (run_end hr (by decide) (.inr ho) ?_)
  rw [ho]
  exact wpAny_pure ⟨_, rfl, hq⟩
end
-- S33
open PySem.Sre
noncomputable def st (text : Array Nat) (pc pos handed : Nat) (marks : Array (Option Nat)) (lm li : Int) (frames : List Sre.Frame) (weight : Nat) (ans : Option Bool) (seen : Sre.Seen) : M :=
  { code := flagsCode.toArray, text := text, lim := text.size, start := 0, pc := pc, pos := pos, handed := handed, marks := marks, lastmark := lm, lastindex := li, frames := frames, weight := weight, answer := ans, seen := seen }
noncomputable def Goes (n : Nat) (m : M) (P : M → Prop) : Prop := ∃ k, k ≤ n ∧ P (M.runFor k m)
theorem Goes.here {n : Nat} {m : M} {P : M → Prop} (h : P m) : Goes n m P := ⟨0, Nat.zero_le _, h⟩
theorem Goes.seq {a b : Nat} {m : M} {P P' : M → Prop} (x : Goes a m P) (y : ∀ m', P m' → Goes b m' P') : Goes (a + b) m P' := by
  obtain ⟨k, hk, h⟩ := x
  obtain ⟨k', hk', h'⟩ := y _ h
  exact ⟨k + k', by omega, by rw [runFor_add]; exact h'⟩
theorem Goes.more {a b : Nat} {m : M} {P : M → Prop} (x : Goes a m P) (h : a ≤ b) : Goes b m P := let ⟨k, hk, hp⟩ := x; ⟨k, by omega, hp⟩
theorem Goes.step {n : Nat} {m m' : M} {P : M → Prop} (ho : m.outcome = none) (e : m.step = m') (h : Goes n m' P) : Goes (n + 1) m P := by
  obtain ⟨k, hk, hp⟩ := h
  refine ⟨k + 1, by omega, ?_⟩
  show P (if m.outcome.isSome = true then m else M.runFor k m.step)
  rw [if_neg (by rw [ho]; simp), e]; exact hp
section
variable {text : Array Nat} {pos handed : Nat} {marks : Array (Option Nat)} {lm li : Int} {frames : List Sre.Frame} {weight : Nat} {seen : Sre.Seen}
theorem lit_step (pc c : Nat) (hp : (pc, c) ∈ [(11, 70), (13, 76), (15, 65), (17, 71), (19, 83), (21, 32), (23, 40), (36, 41)]) : (st text pc pos handed marks lm li frames weight none seen).step =
    if pos ≥ text.size then st text pc pos handed marks lm li frames weight (some false) (seen.add 16)
    else if (text.getD pos 0 == c) = true then st text (pc + 2) (pos + 1) handed marks lm li frames weight none (seen.add 16) else st text pc pos handed marks lm li frames weight (some false) (seen.add 16) := by
  have key : ∀ (pc c : Nat), ops[flagsCode.toArray.getD pc 0]? = some .LITERAL → flagsCode.toArray.getD (pc + 1) 0 = c → pc < flagsCode.toArray.size → flagsCode.toArray.getD pc 0 = 16 → (st text pc pos handed marks lm li frames weight none seen).step =
    if pos ≥ text.size then st text pc pos handed marks lm li frames weight (some false) (seen.add 16)
    else if (text.getD pos 0 == c) = true then st text (pc + 2) (pos + 1) handed marks lm li frames weight none (seen.add 16) else st text pc pos handed marks lm li frames weight (some false) (seen.add 16) := by
    intro pc c h1 h2 h3 h4
    show (if pc < flagsCode.toArray.size then (st text pc pos handed marks lm li frames weight none seen).exec else _) = _
    rw [if_pos h3]
    unfold M.exec
    have hw : (st text pc pos handed marks lm li frames weight none seen).word 0 = 16 := h4
    rw [hw]
    show (if pos ≥ text.size then _ else match accepts flagsCode.toArray pc (text.getD pos 0) (seen.add 16) with | .error why => _ | .ok (false, seen) => _ | .ok (true, seen) => _) = _
    have ha : accepts flagsCode.toArray pc (text.getD pos 0) (seen.add 16) = .ok (text.getD pos 0 == c, seen.add 16) := by
      unfold accepts
      rw [h1, h2]
    have hwid : itemWidth flagsCode.toArray pc = 2 := by unfold itemWidth; rw [h1]
    rw [ha]
    split
    · rfl
    · cases text.getD pos 0 == c
      · rfl
      · show _ = st text (pc + 2) (pos + 1) handed marks lm li frames weight none (seen.add 16)
        rw [← hwid]; rfl
  simp only [List.mem_cons, Prod.mk.injEq, List.not_mem_nil, or_false] at hp
  rcases hp with ⟨rfl, rfl⟩ | ⟨rfl, rfl⟩ | ⟨rfl, rfl⟩ | ⟨rfl, rfl⟩ | ⟨rfl, rfl⟩ | ⟨rfl, rfl⟩ | ⟨rfl, rfl⟩ | ⟨rfl, rfl⟩ <;> exact key _ _ rfl rfl (by decide) rfl
theorem mark_step0 (hl : lm = -1) : (st text 25 pos handed marks lm li frames weight none seen).step = st text 27 pos handed (marks.setIfInBounds 0 (some pos)) 0 li frames weight none (seen.add 17) := by
  subst hl; rfl
theorem mark_step1 (hl : lm = 0) : (st text 34 pos handed marks lm li frames weight none seen).step = st text 36 pos handed (marks.setIfInBounds 1 (some pos)) 1 1 frames weight none (seen.add 17) := by
  subst hl
  show M.mark { st text 34 pos handed marks 0 li frames weight none seen with seen := seen.add 17 } 1 = _
  unfold M.mark
  have e : max (0 : Int) ((1 : Nat) : Int) = 1 := by decide
  show ({ st text 34 pos handed marks 0 li frames weight none seen with seen := seen.add 17, marks := marks.setIfInBounds 1 (some pos), lastmark := max (0 : Int) ((1 : Nat) : Int), lastindex := 1, pc := 36 } : M) = _
  rw [e]; rfl
theorem succ_step : (st text 38 pos handed marks lm li frames weight none seen).step = st text 38 pos pos marks lm li frames weight (some true) (seen.add 1) := rfl
noncomputable def frS (pc pos : Nat) (count lm li : Int) : Sre.Frame := { wait := .giveBack, pc := pc, pos := pos, outermost := true, count := count, kept := { lastmark := lm, lastindex := li } }
theorem run_len {code : Array Nat} {i : Nat} {ok : Nat → Bool} {l : List Nat} (hacc : ∀ c seen, accepts code i c seen = .ok (ok c, seen)) : ∀ (n p found : Nat) (seen : Sre.Seen), p + n = l.length → ∃ seen', Sre.run code l.toArray i n p found seen = .ok (found + ((l.drop p).takeWhile ok).length, seen')
  | 0, p, found, seen, h => by
    have : l.drop p = [] := List.drop_eq_nil_iff.mpr (by omega)
    rw [this]; exact ⟨seen, rfl⟩
  | n + 1, p, found, seen, h => by
    have hp : p < l.length := by omega
    have hd : l.drop p = l[p] :: l.drop (p + 1) := List.drop_eq_getElem_cons hp
    have hg : l.toArray.getD p 0 = l[p] := by simp [Array.getD, hp]
    unfold Sre.run
    rw [hg, hacc, hd, List.takeWhile_cons]
    cases ok l[p] with
    | false => exact ⟨seen, by simp; rfl⟩
    | true =>
      obtain ⟨seen', e⟩ := run_len (l := l) hacc n (p + 1) (found + 1) seen (by omega)
      refine ⟨seen', ?_⟩
      show Sre.run code l.toArray i n (p + 1) (found + 1) seen = _
      rw [e]
      simp only [if_true, List.length_cons]
      congr 2; omega
theorem rep_step {pc tail it : Nat} {ok : Nat → Bool} {l : List Nat} (hpc : (pc = 5 ∧ tail = 11 ∧ it = 9 ∧ ok = fun c => c != 10) ∨ (pc = 27 ∧ tail = 34 ∧ it = 31 ∧ ok = fun c => c != 41)) (hp : pos ≤ l.length) (hl : l.length ≤ 16777216) (hw : weight ≤ 100) :
    ∃ seen', (st l.toArray pc pos handed marks lm li frames weight none seen).step =
      st l.toArray tail (pos + ((l.drop pos).takeWhile ok).length) (pos + ((l.drop pos).takeWhile ok).length) marks lm li (frS pc (pos + ((l.drop pos).takeWhile ok).length) ((l.drop pos).takeWhile ok).length lm li :: frames) (weight + 1) none seen' := by
  have hacc : ∀ c seen, accepts flagsCode.toArray it c seen = .ok (ok c, seen) := by
    intro c seen
    rcases hpc with ⟨_, _, rfl, rfl⟩ | ⟨_, _, rfl, rfl⟩ <;> rfl
  have hmin : min 4294967295 (((l.toArray.size : Nat) : Int) - (pos : Int)).toNat = l.length - pos := by
    have : l.toArray.size = l.length := by simp
    rw [this]; omega
  have hroom : ¬ (((0 : Nat) : Int) > ((l.toArray.size : Nat) : Int) - (pos : Int)) := by
    have : l.toArray.size = l.length := by simp
    rw [this]; omega
  have go : ∀ (s0 : Sre.Seen), ∃ seen', Sre.run flagsCode.toArray l.toArray it (min 4294967295 (((l.toArray.size : Nat) : Int) - (pos : Int)).toNat) pos 0 s0 = .ok (((l.drop pos).takeWhile ok).length, seen') := by
    intro s0
    rw [hmin]
    obtain ⟨seen', e⟩ := run_len (l := l) hacc (l.length - pos) pos 0 s0 (by omega)
    exact ⟨seen', by rw [e, Nat.zero_add]⟩
  rcases hpc with ⟨rfl, rfl, rfl, hok⟩ | ⟨rfl, rfl, rfl, hok⟩
  · obtain ⟨seen', e⟩ := go ((seen.add 24).add 2)
    refine ⟨seen', ?_⟩
    show (if ((0 : Nat) : Int) > ((l.toArray.size : Nat) : Int) - (pos : Int) then _ else match Sre.run flagsCode.toArray l.toArray 9 (min 4294967295 (((l.toArray.size : Nat) : Int) - (pos : Int)).toNat) pos 0 ((seen.add 24).add 2) with | .error why => _ | .ok (n, seen) => _) = _
    rw [if_neg hroom, e]
    show (if weight + 1 + 0 > 16777216 then _ else _) = _
    rw [if_neg (by omega)]
    rfl
  · obtain ⟨seen', e⟩ := go ((seen.add 24).add 20)
    refine ⟨seen', ?_⟩
    show (if ((0 : Nat) : Int) > ((l.toArray.size : Nat) : Int) - (pos : Int) then _ else match Sre.run flagsCode.toArray l.toArray 31 (min 4294967295 (((l.toArray.size : Nat) : Int) - (pos : Int)).toNat) pos 0 ((seen.add 24).add 20) with | .error why => _ | .ok (n, seen) => _) = _
    rw [if_neg hroom, e]
    show (if weight + 1 + 0 > 16777216 then _ else _) = _
    rw [if_neg (by omega)]
    rfl
theorem back_yes {pc p q : Nat} {c lm' li' : Int} : (st text pc p handed marks lm li (frS pc q c lm' li' :: frames) (weight + 1) (some true) seen).step = st text pc q handed marks lm li frames weight (some true) seen := by
  show (st text pc q handed marks lm li frames (weight + 1 - 1) (some true) seen) = _
  rfl
end
-- S34
open PySem.Sre
section
variable {l : List Nat} {text : Array Nat} {pos handed : Nat} {marks : Array (Option Nat)} {lm li : Int} {frames : List Sre.Frame} {weight : Nat} {seen : Sre.Seen}
theorem back_no {pc p pc' tail q : Nat} {c lm' li' : Int} (hpc : (pc' = 5 ∧ tail = 11) ∨ (pc' = 27 ∧ tail = 34)) (hw : weight ≤ 100) : (st text pc p handed marks lm li (frS pc' q c lm' li' :: frames) (weight + 1) (some false) seen).step =
    if c - 1 < 0 then st text pc' q handed marks lm' li' frames weight (some false) seen else st text tail (q - 1) (q - 1) marks lm' li' (frS pc' (q - 1) (c - 1) lm' li' :: frames) (weight + 1) none seen := by
  rcases hpc with ⟨rfl, rfl⟩ | ⟨rfl, rfl⟩
  · show (if c - 1 < ((0 : Nat) : Int) then st text 5 q handed marks lm' li' frames weight (some false) seen else (if weight + 1 + 0 > 16777216 then _ else _)) = _
    rw [if_neg (show ¬ (weight + 1 + 0 > 16777216) by omega)]
    rfl
  · show (if c - 1 < ((0 : Nat) : Int) then st text 27 q handed marks lm' li' frames weight (some false) seen else (if weight + 1 + 0 > 16777216 then _ else _)) = _
    rw [if_neg (show ¬ (weight + 1 + 0 > 16777216) by omega)]
    rfl
theorem st_out (pc : Nat) (ans : Option Bool) : (st text pc pos handed marks lm li frames weight ans seen).outcome = none := rfl
noncomputable def Fails (text : Array Nat) (F : List Sre.Frame) (W : Nat) (m : M) : Prop := ∃ pc pos handed marks lm li seen, marks.size = 2 ∧ m = st text pc pos handed marks lm li F W (some false) seen
theorem getD_drop {p : Nat} : l.toArray.getD p 0 = (l.drop p).headD 0 := by
  by_cases h : p < l.length
  · rw [List.drop_eq_getElem_cons h]; simp [Array.getD, h]
  · rw [List.drop_eq_nil_iff.mpr (by omega)]; simp [Array.getD, h]
theorem back_no0 {pc p pc' q : Nat} {lm' li' : Int} (tail : Nat) (hpc : (pc' = 5 ∧ tail = 11) ∨ (pc' = 27 ∧ tail = 34)) (hw : weight ≤ 100) : (st text pc p handed marks lm li (frS pc' q ((0 : Nat) : Int) lm' li' :: frames) (weight + 1) (some false) seen).step = st text pc' q handed marks lm' li' frames weight (some false) seen :=
  (back_no hpc hw).trans (if_pos (by decide))
theorem int_pred (c : Nat) : ((c + 1 : Nat) : Int) - 1 = (c : Int) := by omega
theorem back_noS {pc p pc' tail q c : Nat} {lm' li' : Int} (hpc : (pc' = 5 ∧ tail = 11) ∨ (pc' = 27 ∧ tail = 34)) (hw : weight ≤ 100) : (st text pc p handed marks lm li (frS pc' q ((c + 1 : Nat) : Int) lm' li' :: frames) (weight + 1) (some false) seen).step = st text tail (q - 1) (q - 1) marks lm' li' (frS pc' (q - 1) (c : Int) lm' li' :: frames) (weight + 1) none seen :=
  (back_no hpc hw).trans (by rw [int_pred]; exact if_neg (Int.not_lt.mpr (Int.natCast_nonneg c)))
theorem lit_no {q : Nat} (h : l.toArray.getD q 0 = 41 → q ≥ l.length) : (st l.toArray 36 q handed marks lm li frames weight none seen).step = st l.toArray 36 q handed marks lm li frames weight (some false) (seen.add 16) := by
  rw [lit_step 36 41 (by decide)]
  by_cases hp : q ≥ l.toArray.size
  · exact if_pos hp
  · rw [if_neg hp]; exact if_neg fun e => hp (List.size_toArray ▸ h (eq_of_beq e))
theorem q_pred {q c : Nat} (h : c + 1 ≤ q) : c ≤ q - 1 := Nat.le_sub_of_add_le h
theorem pred_add {q k c : Nat} (h : q - 1 ≤ k + c) : q ≤ k + (c + 1) := by omega
theorem inner_none (hm : marks.size = 2) (hw : weight ≤ 50) (c : Nat) : ∀ (q h0 : Nat) (marks : Array (Option Nat)) (seen : Sre.Seen), marks.size = 2 → (∀ k, q ≤ k + c → k ≤ q → (l.toArray.getD k 0 = 41 → k ≥ l.length)) → c ≤ q →
    Goes (4 * (c + 1)) (st l.toArray 34 q h0 marks 0 li (frS 27 q (c : Int) 0 li :: frames) (weight + 1) none seen) (Fails l.toArray frames weight) := by
  have hw2 : weight ≤ 100 := Nat.le_trans hw (by decide)
  induction c with
  | zero => exact fun q h0 mk seen hmk hno _ => Goes.more (a := 3) (Goes.step (st_out _ _) (mark_step1 rfl) (Goes.step (st_out _ _) (lit_no (hno q (Nat.le_refl _) (Nat.le_refl _))) (Goes.step (n := 0) (st_out _ _) (back_no0 34 (.inr ⟨rfl, rfl⟩) hw2) (Goes.here ⟨_, _, _, _, _, _, _, (Array.size_setIfInBounds ..).trans hmk, rfl⟩)))) (by decide)
  | succ c ih => exact fun q h0 mk seen hmk hno hcq => Goes.more (a := 4 * (c + 1) + 1 + 1 + 1) (Goes.step (st_out _ _) (mark_step1 rfl) (Goes.step (st_out _ _) (lit_no (hno q (Nat.le_add_right _ _) (Nat.le_refl _))) (Goes.step (st_out _ _) (back_noS (.inr ⟨rfl, rfl⟩) hw2) (ih (q - 1) (q - 1) _ _ ((Array.size_setIfInBounds ..).trans hmk) (fun k h1 h2 => hno k (pred_add h1) (Nat.le_trans h2 (Nat.sub_le _ _))) (q_pred hcq))))) (Nat.le_succ _)
theorem tw_get {α : Type} [Inhabited α] {ok : α → Bool} : ∀ (l : List α) (k : Nat), k < (l.takeWhile ok).length → ∃ h : k < l.length, ok l[k] = true
  | [], k, h => by simp at h
  | a :: r, k, h => by
    rw [List.takeWhile_cons] at h
    cases ha : ok a with
    | false => rw [ha] at h; simp at h
    | true =>
      rw [ha] at h
      cases k with
      | zero => exact ⟨by simp, by simpa using ha⟩
      | succ k =>
        obtain ⟨h1, h2⟩ := tw_get r k (by simpa using h)
        exact ⟨by simpa using h1, by simpa using h2⟩
theorem tw_next {α : Type} {ok : α → Bool} : ∀ (l : List α) (a : α), l[(l.takeWhile ok).length]? = some a → ok a = false
  | [], _, h => by simp at h
  | b :: r, a, h => by
    rw [List.takeWhile_cons] at h
    cases hb : ok b with
    | false => rw [hb] at h; simp at h; rw [← h]; exact hb
    | true => rw [hb] at h; simp at h; exact tw_next r a h
theorem inner_run {p : Nat} (hp : p ≤ l.length) (hl : l.length ≤ 16777216) (hm : marks.size = 2) (hw : weight ≤ 50) : Goes (4 * l.length + 20) (st l.toArray 27 p handed marks 0 li frames weight none seen) (fun m' =>
    if (l.drop p).contains 41 then ∃ pc pos seen', m' = st l.toArray pc pos (p + ((l.drop p).takeWhile (· != 41)).length + 1) (marks.setIfInBounds 1 (some (p + ((l.drop p).takeWhile (· != 41)).length))) 1 1 frames weight (some true) seen'
    else Fails l.toArray frames weight m') := by
  have hs : l.toArray.size = l.length := by simp
  obtain ⟨seen', e⟩ := rep_step (l := l) (pc := 27) (tail := 34) (it := 31) (pos := p) (handed := handed) (marks := marks) (lm := 0) (li := li) (frames := frames) (weight := weight) (seen := seen) (ok := fun c => c != 41) (.inr ⟨rfl, rfl, rfl, rfl⟩) hp hl (by omega)
  have e20 : 4 * l.length + 20 = (4 * l.length + 19) + 1 := by omega
  rw [e20]
  refine Goes.step (st_out _ _) e ?_
  generalize hn : ((l.drop p).takeWhile fun c => c != 41).length = n
  have hnle : n ≤ l.length - p := by
    rw [← hn, ← List.length_drop]; exact (List.takeWhile_sublist _).length_le
  by_cases hc : (l.drop p).contains 41 = true
  · simp only [hc, if_true]
    have hlt : n < (l.drop p).length := by
      rcases Nat.lt_or_ge n (l.drop p).length with h | h
      · exact h
      · exfalso
        have hmem : 41 ∈ l.drop p := by simpa using hc
        obtain ⟨k, hk, hk'⟩ := List.getElem_of_mem hmem
        obtain ⟨_, h2⟩ := tw_get (ok := fun c => c != 41) (l.drop p) k (by rw [hn]; omega)
        rw [hk'] at h2; simp at h2
    have hch : l.toArray.getD (p + n) 0 = 41 := by
      have h1 := tw_next (ok := fun c => c != 41) (l.drop p) ((l.drop p)[n]) (by rw [hn]; exact List.getElem?_eq_getElem hlt)
      have h2 : (l.drop p)[n] = 41 := by simpa using h1
      rw [getD_drop, ← List.drop_drop, List.drop_eq_getElem_cons hlt]
      exact h2
    refine Goes.more ?_ (show 4 ≤ 4 * l.length + 19 by omega)
    refine Goes.step (n := 3) (st_out _ _) (mark_step1 rfl) ?_
    refine Goes.step (n := 2) (m' := st l.toArray 38 (p + n + 1) (p + n) (marks.setIfInBounds 1 (some (p + n))) 1 1 (frS 27 (p + n) n 0 li :: frames) (weight + 1) none ((seen'.add 17).add 16)) (st_out _ _) ((lit_step 36 41 (by simp)).trans ?_) ?_
    · rw [if_neg (by rw [List.length_drop] at hlt; omega), hch]; rfl
    · refine Goes.step (n := 1) (st_out _ _) succ_step ?_
      refine Goes.step (n := 0) (st_out _ _) (back_yes (p := p + n + 1)) ?_
      exact Goes.here ⟨_, _, _, rfl⟩
  · have hcf : (l.drop p).contains 41 = false := by simpa using hc
    simp only [hcf, Bool.false_eq_true, if_false]
    have hnot : ∀ k, p ≤ k → l.toArray.getD k 0 = 41 → k ≥ l.length := by
      intro k hk h
      rcases Nat.lt_or_ge k l.length with hlt | hge
      · exfalso
        apply hc
        have : l[k] = 41 := by simpa [Array.getD, hlt] using h
        have hm : 41 ∈ l.drop p := by
          rw [← this, List.mem_iff_getElem?]
          exact ⟨k - p, by rw [List.getElem?_drop, Nat.add_sub_cancel' hk]; exact List.getElem?_eq_getElem hlt⟩
        simpa using hm
      · exact hge
    refine Goes.more (inner_none (l := l) (li := li) (frames := frames) (weight := weight) hm hw n (p + n) (p + n) marks seen' hm (fun k h1 h2 => hnot k (by omega)) (by omega)) (by omega)
end
-- S35
open PySem.Sre
noncomputable def pre : List Nat := [70, 76, 65, 71, 83, 32, 40]
theorem flagsAt_eq (x : List Nat) : flagsAt x = if (pre.isPrefixOf x && (x.drop 7).contains 41) = true then some ((x.drop 7).takeWhile (· != 41)) else none := rfl
theorem pre_mem : ∀ k < 7, (11 + 2 * k, pre.getD k 0) ∈ [(11, 70), (13, 76), (15, 65), (17, 71), (19, 83), (21, 32), (23, 40), (36, 41)] := by decide +kernel
section
variable {l : List Nat} {handed : Nat} {marks : Array (Option Nat)} {lm li : Int} {frames : List Sre.Frame} {weight : Nat} {seen : Sre.Seen}
theorem lits_run (hm : marks.size = 2) : ∀ (cs : List Nat) (pc p : Nat) (seen : Sre.Seen), (∀ k c, cs[k]? = some c → (pc + 2 * k, c) ∈ [(11, 70), (13, 76), (15, 65), (17, 71), (19, 83), (21, 32), (23, 40), (36, 41)]) →
    Goes cs.length (st l.toArray pc p handed marks lm li frames weight none seen) (fun m' => if cs.isPrefixOf (l.drop p) = true then ∃ seen', m' = st l.toArray (pc + 2 * cs.length) (p + cs.length) handed marks lm li frames weight none seen' else Fails l.toArray frames weight m')
  | [], pc, p, seen, _ => by
    refine Goes.here ?_
    rw [if_pos (by rfl)]
    exact ⟨seen, rfl⟩
  | c :: r, pc, p, seen, h => by
    have h0 := h 0 c rfl
    have e := lit_step (text := l.toArray) (pos := p) (handed := handed) (marks := marks) (lm := lm) (li := li) (frames := frames) (weight := weight) (seen := seen) pc c h0
    have hs : l.toArray.size = l.length := by simp
    by_cases hp : p ≥ l.length
    · rw [if_pos (by rw [hs]; exact hp)] at e
      refine Goes.step (st_out _ _) e (Goes.here ?_)
      have hd : l.drop p = [] := List.drop_eq_nil_iff.mpr hp
      rw [hd, if_neg (show ¬ ((c :: r).isPrefixOf [] = true) from Bool.false_ne_true)]
      exact ⟨_, _, _, _, _, _, _, hm, rfl⟩
    · have hp : p < l.length := by omega
      have hd : l.drop p = l[p] :: l.drop (p + 1) := List.drop_eq_getElem_cons hp
      have hg : l.toArray.getD p 0 = l[p] := by simp [Array.getD, hp]
      rw [if_neg (by rw [hs]; omega), hg] at e
      by_cases hc : (l[p] == c) = true
      · rw [if_pos hc] at e
        refine Goes.step (st_out _ _) e ?_
        obtain ⟨k, hk, hq⟩ := lits_run hm r (pc + 2) (p + 1) (seen.add 16) fun k c' hk => by
          have := h (k + 1) c' (by simpa using hk)
          have e1 : pc + 2 * (k + 1) = pc + 2 + 2 * k := by omega
          rw [e1] at this; exact this
        refine ⟨k, hk, ?_⟩
        have e2 : (c :: r).isPrefixOf (l.drop p) = r.isPrefixOf (l.drop (p + 1)) := by
          rw [hd]
          show (c == l[p] && r.isPrefixOf (l.drop (p + 1))) = _
          rw [eq_of_beq hc, beq_self_eq_true, Bool.true_and]
        rw [e2]
        have e3 : pc + 2 * (c :: r).length = pc + 2 + 2 * r.length := by simp only [List.length_cons]; omega
        have e4 : p + (c :: r).length = p + 1 + r.length := by simp only [List.length_cons]; omega
        rw [e3, e4]
        exact hq
      · rw [if_neg hc] at e
        refine Goes.step (st_out _ _) e (Goes.here ?_)
        have e2 : (c :: r).isPrefixOf (l.drop p) = false := by
          rw [hd]
          show (c == l[p] && r.isPrefixOf (l.drop (p + 1))) = _
          have : (c == l[p]) = false := by
            cases hq : c == l[p] with
            | false => rfl
            | true => exact absurd (by rw [eq_of_beq hq]; exact beq_self_eq_true _) hc
          rw [this, Bool.false_and]
        rw [e2, if_neg (by simp)]
        exact ⟨_, _, _, _, _, _, _, hm, rfl⟩
theorem two_marks {a b : Option Nat} (hm : marks.size = 2) : (marks.setIfInBounds 0 a).setIfInBounds 1 b = #[a, b] := by
  apply Array.ext
  · simp [hm]
  · intro i h1 h2
    have hi : i < 2 := by simpa using h2
    have : i = 0 ∨ i = 1 := by omega
    rcases this with rfl | rfl
    · rw [Array.getElem_setIfInBounds_ne (by simp [hm]) (by decide)]; simp [hm]
    · simp [hm]
theorem tail_run {p : Nat} (hp : p ≤ l.length) (hl : l.length ≤ 16777216) (hm : marks.size = 2) (hw : weight ≤ 50) : Goes (4 * l.length + 28) (st l.toArray 11 p handed marks (-1) li frames weight none seen) (fun m' =>
    match flagsAt (l.drop p) with
    | some g => ∃ pc pos seen', m' = st l.toArray pc pos (p + 7 + g.length + 1) #[some (p + 7), some (p + 7 + g.length)] 1 1 frames weight (some true) seen'
    | none => Fails l.toArray frames weight m') := by
  have e28 : 4 * l.length + 28 = pre.length + (4 * l.length + 21) := by show _ = 7 + _; omega
  rw [e28]
  refine Goes.seq (lits_run (l := l) (handed := handed) (lm := -1) (li := li) (frames := frames) (weight := weight) hm pre 11 p seen ?_) fun m' hm' => ?_
  · intro k c hk
    have hk7 : k < 7 := (List.getElem?_eq_some_iff.mp hk).1
    obtain rfl : pre.getD k 0 = c := by rw [List.getD_eq_getElem?_getD, hk]; rfl
    exact pre_mem k hk7
  · rw [flagsAt_eq]
    by_cases hpre : pre.isPrefixOf (l.drop p) = true
    · rw [if_pos hpre] at hm'
      obtain ⟨seen', rfl⟩ := hm'
      have hp7 : p + 7 ≤ l.length := by
        obtain ⟨r, hr⟩ := List.isPrefixOf_iff_prefix.mp hpre
        have := congrArg List.length hr
        rw [List.length_append, List.length_drop] at this
        have h7 : pre.length = 7 := rfl
        omega
      have e1 : (4 * l.length + 21) = (4 * l.length + 20) + 1 := rfl
      rw [e1]
      refine Goes.step (st_out _ _) (mark_step0 rfl) ?_
      have hm2 : (marks.setIfInBounds 0 (some (p + pre.length))).size = 2 := by simp [hm]
      obtain ⟨k, hk, hq⟩ := inner_run (l := l) (handed := handed) (li := li) (frames := frames) (weight := weight) (seen := seen'.add 17) hp7 hl hm2 hw
      refine ⟨k, hk, ?_⟩
      rw [hpre, Bool.true_and, List.drop_drop]
      by_cases hc : (l.drop (p + 7)).contains 41 = true
      · rw [if_pos hc] at hq
        rw [if_pos hc]
        obtain ⟨pc, pos, seen'', e⟩ := hq
        refine ⟨pc, pos, seen'', ?_⟩
        rw [two_marks hm] at e
        exact e
      · rw [if_neg hc] at hq
        rw [if_neg hc]
        exact hq
    · rw [if_neg hpre] at hm'
      have hpre' : pre.isPrefixOf (l.drop p) = false := Bool.eq_false_iff.mpr hpre
      rw [hpre', Bool.false_and, if_neg (by simp)]
      exact Goes.here hm'
noncomputable def Says (l : List Nat) (r : Option (List Nat)) (m : M) : Prop := match r with
  | some g => m.outcome = some .matched ∧ m.start = 0 ∧ ∃ b, b + g.length < l.length ∧ g = (l.drop b).take g.length ∧ m.marks = #[some b, some (b + g.length)] ∧ m.lastmark = 1 ∧ m.lastindex = 1 ∧ m.handed = b + g.length + 1
  | none => m.outcome = some .failed
theorem flagsAt_text {p : Nat} {g : List Nat} (h : flagsAt (l.drop p) = some g) : p + 7 + g.length < l.length ∧ g = (l.drop (p + 7)).take g.length := by
  rw [flagsAt_eq] at h
  refine gk h fun hc h => ?_
  have hc := an hc
  · obtain rfl := Option.some.inj h
    rw [List.drop_drop] at hc ⊢
    have hlt : ((l.drop (p + 7)).takeWhile (· != 41)).length < (l.drop (p + 7)).length := by
      rcases Nat.lt_or_ge ((l.drop (p + 7)).takeWhile (· != 41)).length (l.drop (p + 7)).length with h | h
      · exact h
      · exfalso
        have hmem : 41 ∈ l.drop (p + 7) := by simpa using hc.2
        obtain ⟨k, hk, hk'⟩ := List.getElem_of_mem hmem
        obtain ⟨_, h2⟩ := tw_get (ok := fun c => c != 41) (l.drop (p + 7)) k (by omega)
        rw [hk'] at h2; simp at h2
    refine ⟨by rw [List.length_drop] at hlt; omega, ?_⟩
    exact List.prefix_iff_eq_take.mp (List.takeWhile_prefix _)
theorem rev_range (q : Nat) : (List.range' 0 (q + 1)).reverse = q :: (List.range' 0 q).reverse := by
  rw [List.range'_concat]; simp
theorem out_len (n q : Nat) : (4 * n + 31) * (q + 1) = (4 * n + 28) + ((4 * n + 31) * q + 2 + 1) := by rw [Nat.mul_add]; omega
theorem outer_run (hl : l.length ≤ 16777216) (q : Nat) : ∀ (handed : Nat) (marks : Array (Option Nat)) (seen : Sre.Seen), q ≤ l.length → marks.size = 2 →
    Goes ((4 * l.length + 31) * (q + 1)) (st l.toArray 11 q handed marks (-1) (-1) [frS 5 q (q : Int) (-1) (-1)] 1 none seen) (Says l (((List.range' 0 (q + 1)).reverse).findSome? fun p => flagsAt (l.drop p))) := by
  induction q with
  | zero =>
    intro handed marks seen hq hm
    rw [out_len]
    refine Goes.seq (tail_run (handed := handed) (li := -1) (frames := [frS 5 0 ((0 : Nat) : Int) (-1) (-1)]) (seen := seen) hq hl hm (by decide)) fun m' hm' => ?_
    rw [rev_range, List.findSome?_cons]
    revert hm'
    cases hf : flagsAt (l.drop 0) with
    | some g => exact fun ⟨pc, pos, seen', e⟩ => e ▸ Goes.more (Goes.step (n := 1) (st_out _ _) (back_yes (p := pos)) (Goes.step (n := 0) (st_out _ _) rfl (Goes.here ⟨rfl, rfl, 0 + 7, (flagsAt_text hf).1, (flagsAt_text hf).2, rfl, rfl, rfl, rfl⟩))) (Nat.le_add_left _ _)
    | none => exact fun ⟨pc, pos, h', mk', lm', li', seen', hmk, e⟩ => e ▸ Goes.step (st_out _ _) (back_no0 11 (.inl ⟨rfl, rfl⟩) (by decide)) (Goes.more (a := 1) (Goes.step (n := 0) (st_out _ _) rfl (Goes.here rfl)) (Nat.le_add_left _ _))
  | succ q ih =>
    intro handed marks seen hq hm
    rw [out_len]
    refine Goes.seq (tail_run (handed := handed) (li := -1) (frames := [frS 5 (q + 1) ((q + 1 : Nat) : Int) (-1) (-1)]) (seen := seen) hq hl hm (by decide)) fun m' hm' => ?_
    rw [rev_range, List.findSome?_cons]
    revert hm'
    cases hf : flagsAt (l.drop (q + 1)) with
    | some g => exact fun ⟨pc, pos, seen', e⟩ => e ▸ Goes.more (Goes.step (n := 1) (st_out _ _) (back_yes (p := pos)) (Goes.step (n := 0) (st_out _ _) rfl (Goes.here ⟨rfl, rfl, q + 1 + 7, (flagsAt_text hf).1, (flagsAt_text hf).2, rfl, rfl, rfl, rfl⟩))) (Nat.le_add_left _ _)
    | none => exact fun ⟨pc, pos, h', mk', lm', li', seen', hmk, e⟩ => e ▸ Goes.step (st_out _ _) (back_noS (.inl ⟨rfl, rfl⟩) (by decide)) (Goes.more (ih q mk' seen' (Nat.le_of_succ_le hq) hmk) (Nat.le_add_right _ _))
end
-- S36
open PySem.Sre
theorem range_shift : ∀ (k s : Nat), List.range' (s + 1) k = (List.range' s k).map (· + 1)
  | 0, _ => rfl
  | k + 1, s => by
    rw [List.range'_succ, List.range'_succ, List.map_cons, range_shift k (s + 1)]
theorem fs_shift {β : Type} (f : Nat → Option β) (k : Nat) : ((List.range' 0 (k + 1)).reverse).findSome? f = (((List.range' 0 k).reverse).findSome? fun p => f (p + 1)).or (f 0) := by
  rw [List.range'_succ, List.reverse_cons, List.findSome?_append, range_shift k 0, ← List.map_reverse, List.findSome?_map]
  have : List.findSome? f [0] = f 0 := by
    rw [List.findSome?_cons]
    cases f 0 <;> rfl
  rw [this]
  rfl
theorem flagsIn_eq : ∀ l : List Nat, flagsIn l = ((List.range' 0 ((l.takeWhile (· != 10)).length + 1)).reverse).findSome? fun p => flagsAt (l.drop p)
  | [] => rfl
  | c :: r => by
    rw [fs_shift]
    unfold flagsIn
    rw [List.takeWhile_cons]
    by_cases hc : (c == 10) = true
    · have hn : (c != 10) = false := by simp [bne, hc]
      rw [if_pos hc, hn]
      rfl
    · have hn : (c != 10) = true := by simp [bne, hc]
      rw [if_neg hc, hn, flagsIn_eq r]
      rfl
theorem flags_short {l : List Nat} (h : l.length < 8) : flagsIn l = none := by
  rw [flagsIn_eq, List.findSome?_eq_none_iff]
  intro p _
  cases hf : flagsAt (l.drop p) with
  | none => rfl
  | some g => have := (flagsAt_text hf).1; omega
theorem match_end {l : List Nat} (hl : l.length ≤ 16777216) : ∃ n m', M.runFor n (forMatch flagsCode.toArray l.toArray 1 0 l.toArray.size false false) = m' ∧ n ≤ 4 * 2 ^ 64 ∧ Says l (flagsIn l) m' := by
  have hs : l.toArray.size = l.length := by simp
  by_cases h8 : l.length < 8
  · rw [flags_short h8]
    refine ⟨1, _, rfl, by decide, ?_⟩
    have e : forMatch flagsCode.toArray l.toArray 1 0 l.toArray.size false false = (st l.toArray 5 0 0 #[none, none] (-1) (-1) [] 0 none (({} : Sre.Seen).add 14)).say false := by
      unfold forMatch
      show (if ((8 : Nat) != 0 && decide (0 ≤ l.toArray.size) && decide (l.toArray.size - 0 < 8)) = true then _ else _) = _
      rw [if_pos (by rw [hs]; simp; omega)]
      rfl
    rw [e]
    exact say_no rfl rfl
  · have e : forMatch flagsCode.toArray l.toArray 1 0 l.toArray.size false false = st l.toArray 5 0 0 #[none, none] (-1) (-1) [] 0 none (({} : Sre.Seen).add 14) := by
      unfold forMatch
      show (if ((8 : Nat) != 0 && decide (0 ≤ l.toArray.size) && decide (l.toArray.size - 0 < 8)) = true then _ else _) = _
      rw [if_neg (by rw [hs]; simp; omega)]
      rfl
    obtain ⟨seen', e5⟩ := rep_step (l := l) (pc := 5) (tail := 11) (it := 9) (pos := 0) (handed := 0) (marks := #[none, none]) (lm := -1) (li := -1) (frames := []) (weight := 0) (seen := ({} : Sre.Seen).add 14) (ok := fun c => c != 10) (.inl ⟨rfl, rfl, rfl, rfl⟩) (Nat.zero_le _) hl (by omega)
    rw [List.drop_zero, Nat.zero_add] at e5
    have hn : (l.takeWhile fun c => c != 10).length ≤ l.length := (List.takeWhile_sublist _).length_le
    obtain ⟨k, hk, hq⟩ := Goes.step (st_out _ _) e5 (outer_run (l := l) hl (l.takeWhile fun c => c != 10).length (l.takeWhile fun c => c != 10).length #[none, none] seen' hn rfl)
    refine ⟨k, _, rfl, ?_, ?_⟩
    · refine Nat.le_trans hk ?_
      have h1 : (4 * l.length + 31) * ((l.takeWhile fun c => c != 10).length + 1) ≤ (4 * 16777216 + 31) * (16777216 + 1) := Nat.mul_le_mul (by omega) (by omega)
      have h2 : (4 * 16777216 + 31) * (16777216 + 1) + 1 ≤ 4 * 2 ^ 64 := by decide
      omega
    · rw [e, flagsIn_eq]; exact hq
-- S37
open PySem.Sre
theorem IsMat.typeIs {φ : List Addr} {s : Shared} {a : Addr} {g : List Nat} (x : IsMat φ s.heap a g) : s.TypeIs (.ref a) "re.Match" := by
  obtain ⟨b, t, i, j, v2, v3, v4, x0, x1, ta, e1, _⟩ := x
  exact ⟨_, e1, rfl⟩
section
variable {prog : Program} {w : World} {A : Around} {φ : Ap} {s : Shared} {E : Value → Shared → Prop}
open Builtin Builtin.Re
theorem t_mat {φ : List Addr} {a : Addr} {g : List Nat} {Q : Bool → Shared → Prop} (x : IsMat φ s.heap a g) (h : Q true s) : wpAny (model prog w) A (truthy (.ref a)) Q E s := by
  unfold truthy
  first
    | refine wpAny_bind (wpAny_callSpecial?_none (name := Str.ofString "__bool__") x.typeIs mat_no_bool ?_)
    | refine wpAny_bind (wpAny_pure (wpAny_bind (wpAny_callSpecial?_none (name := Str.ofString "__bool__") x.typeIs mat_no_bool ?_)))
  first
    | refine wpAny_bind (wpAny_specialOf (name := Str.ofString "__len__") x.typeIs mat_no_len ?_)
    | refine wpAny_bind (wpAny_pure (wpAny_bind (wpAny_specialOf (name := Str.ofString "__len__") x.typeIs mat_no_len ?_)))
  exact wpAny_pure h
theorem l_match {hb : Heap} {σ : Sto} (O : StoOk hb φ σ s.heap) {d : Value} (P : PatAt s.heap 43 1 1 flagsCode d) {b : Array UInt8} {t : Tok} (hz : b.size ≤ 16777216) {Q : Value → Shared → Prop}
    (h : ∀ v s', Kp s s' → RepV φ s'.heap v (((flagsIn (b.toList.map (fun x => x.toNat))).map V.mat).getD (.p .none)) → Q v s') :
    wpAny (model prog w) A (call (.builtin "re.Pattern.match") [.ref 43, .bytes b t]) Q E s := by
  have hT : s.TypeIs (.ref 43) "re.Pattern" := by
    obtain ⟨_, _, _, _, _, _, e⟩ := P
    exact ⟨_, e, rfl⟩
  refine wpAny_call_entry slot_pat_match hT entry_pat_match ?_ (args_pat_match _ _)
  show wpAny _ _ (reTarget "re.Pattern.match" "match" _ >>= fun t => reAnswer t (Sre.forMatch t.code t.text t.groups t.pos t.lim false false)) _ _ _
  refine wpAny_bind (target_bytes P _ _ _ _ hz ?_)
  have et : b.map (fun x => x.toNat) = (b.toList.map (fun x => x.toNat)).toArray := by rw [← Array.toList_map, Array.toArray_toList]
  have es : b.size = (b.toList.map (fun x => x.toNat)).toArray.size := by simp
  rw [et, es]
  obtain ⟨n, m', hr, hn, hs⟩ := match_end (l := b.toList.map (fun x => x.toNat)) (by simpa using hz)
  cases hf : flagsIn (b.toList.map (fun x => x.toNat)) with
  | none =>
    rw [hf] at hs h
    have hs : m'.outcome = some .failed := hs
    unfold reAnswer
    refine wpAny_bind (run_end hr hn (.inr hs) ?_)
    rw [hs]
    exact wpAny_pure ⟨_, rfl, h _ _ (Kp.refl s) (.p .none)⟩
  | some g =>
    rw [hf] at hs h
    obtain ⟨ho, h0, p, hp, hg, hm, hlm, hli, hh⟩ := hs
    unfold reAnswer
    refine wpAny_bind (run_end hr hn (.inl ho) ?_)
    rw [ho]
    dsimp only
    have em : reNewMatch (.ref 43) (.bytes b t) 1 0 (b.toList.map (fun x => x.toNat)).toArray.size m' = (newTuple [rawInt m'.start, rawInt m'.handed, rawInt p, rawInt (p + g.length : Nat)] >>= fun x => newFields "re.Match" [.bytes b t, .ref 43, rawInt (0 : Nat), rawInt (b.toList.map (fun x => x.toNat)).toArray.size, rawInt m'.lastindex, x]) := by
      unfold reNewMatch
      rw [hm, hlm]
      have e0 : (List.range 1) = [0] := rfl
      rw [e0, List.any_cons, List.any_nil, Bool.or_false]
      show (if (decide (((2 * 0 + 1 : Nat) : Int) ≤ 1) && decide (p + g.length < p)) = true then _ else _) = _
      rw [if_neg (by simp)]
      rfl
    refine wpAny_bind ?_
    rw [em]
    refine wpAny_bind (wpAny_newTuple ?_)
    refine wpAny_newObj_type ?_
    refine wpAny_pure ⟨_, rfl, h _ _ ((Kp.push' _ _).trans (Kp.push' _ _)) (.mat ⟨b, t, p, p + g.length, _, _, _, _, _, _, Heap.get?_push_size _ rfl, ⟨_, Heap.get?_push_of_some _ (Heap.get?_push_size _ rfl), rfl, 0, rfl⟩, notin_fresh (s := { s with heap := s.heap.push _ }) (O.kp (Kp.push' _ _)), notin_fresh O, by omega, ?_, hz, ?_⟩)⟩
    · have : (b.toList.map fun x => x.toNat).length = b.size := by simp
      omega
    · rw [List.map_take, List.map_drop, Nat.add_sub_cancel_left]; exact hg
theorem str_no_index : typeLookup (.type "str") "__index__" = pure none := by rw [typeLookup_type, builtinLookup_eq_fast]; kernel_rfl
theorem l_group {hb : Heap} {σ : Sto} {t1 : Tok} (hm : s.heap.MapOf (strKind prog w) 40 (fun k => if k = (⟨flagsName.toArray⟩ : Str) then some (.int 1 t1) else none)) (P : PatAt s.heap 43 1 1 flagsCode (.ref 40)) {ψ : List Addr} {a : Addr} {g : List Nat} (x : IsMat ψ s.heap a g) {t : Tok} {Q : Value → Shared → Prop}
    (h : ∀ v s', Kp s s' → RepV φ s'.heap v (.p (.bytes g)) → Q v s') :
    wpAny (model prog w) A (call (.builtin "re.Match.group") [.ref a, .str ⟨flagsName.toArray⟩ t]) Q E s := by
  refine wpAny_call_entry slot_mat_group x.typeIs entry_mat_group ?_ (args_mat_group _ _)
  obtain ⟨b, bt, i, j, v2, v3, v4, x0, x1, ta, e1, ⟨o, ho, hoc, n, hod⟩, n1, n2, hij, hjb, hz, hg⟩ := x
  obtain ⟨f0, f1, f4, cl, t2, t6, e⟩ := P
  unfold Builtin.«re.Match.group»
  refine wpAny_bind (wpAny_of_eq (a := ()) rfl ?_)
  refine wpAny_bind (wpAny_bind (wpAny_fieldsOf e1 rfl ?_))
  unfold reRawItems
  refine wpAny_bind (wpAny_bind (wpAny_seqItems ho hod (wpAny_pure (wpAny_pure ?_))))
  have ea : (Array.map reRawOf ((some #[x0, x1, rawInt i, rawInt j]).getD #[])) = #[reRawOf x0, reRawOf x1, (i : Int), (j : Int)] := by simp [reRawOf, rawInt]
  rw [ea]
  refine wpAny_bind (m := reGroupNumber _ _) ?_
  unfold reGroupNumber
  refine wpAny_bind (m := asInt? _) (wpAny_bind (wpAny_of_eq (a := ()) rfl (wpAny_pure ?_)))
  dsimp only
  refine wpAny_ite (KPc.ite_no Bool.false_ne_true ?_)
  refine wpAny_bind (wpAny_specialOf (typeIs_str s _ _) str_no_index ?_)
  refine wpAny_ite (KPc.ite_no Bool.false_ne_true ?_)
  refine wpAny_bind (wpAny_fieldsOf (a := 43) e rfl ?_)
  refine wpAny_bind (m := dictGet 40 _) (wpAny_dictGet_of (strKind_is _ _ _ _) hm ?_)
  rw [if_pos rfl]
  refine wpAny_bind (m := asInt? _) (wpAny_pure (wpAny_bind (wpAny_pure ?_)))
  refine wpAny_ite (KPc.ite_no (by show ¬ (decide ((1 : Int) < 0) || decide (2 * (1 : Int) ≥ ((4 : Nat) : Int))) = true; decide) (wpAny_pure ?_))
  refine wpAny_bind ?_
  unfold reGroupText
  show wpAny _ _ (if (decide ((i : Int) < 0) || decide ((j : Int) < 0)) = true then _ else _) _ _ _
  rw [if_neg (by simp)]
  refine wpAny_bind (m := reTextOf (.bytes b bt)) ?_
  unfold reTextOf
  refine wpAny_bind (wpAny_of_eq (a := none) rfl ?_)
  refine wpAny_bind (wpAny_of_eq KBy.quiet_eq (wpAny_pure ?_))
  refine wpAny_mkBytes (wpAny_pure ⟨_, rfl, h _ _ ((Kp.toks _ _).trans (Kp.toks _ _)) ?_⟩) ?_
  · have : g = ((((b.map (fun x => x.toNat)).extract ((i : Int).toNat) ((j : Int).toNat)).map (fun x => x.toUInt8)).toList).map (fun x => x.toNat) := by
      rw [hg]
      simp only [Array.toList_map, Array.toList_extract, Int.toNat_natCast, List.extract_eq_take_drop, List.map_map]
      rw [← List.map_drop, ← List.map_take, List.map_map]
      refine List.map_congr_left fun x _ => ?_
      simp
    rw [this]
    exact .p (.bytes _ _)
  · rw [Array.size_map, Array.size_extract, Array.size_map, sizeLine_eq]
    omega
end
end
section
open PySem PySem.Calls PyProof.Rows PySem.W PySem.SeqAt
set_option autoImplicit false
set_option maxHeartbeats 4000000
set_option maxRecDepth 100000
-- S38
structure Pats (prog : Program) (w : World) (h : Heap) : Prop where
  flags : PatAt h 43 1 1 flagsCode (.ref 40)
  name : ∃ d, PatAt h 133 0 0 nameCode d
  value : ∃ d, PatAt h 138 0 0 valueCode d
  grp : ∃ t, h.MapOf (strKind prog w) 40 (fun k => if k = (⟨flagsName.toArray⟩ : Str) then some (.int 1 t) else none)
theorem mapOf_keeps {prog : Program} {w : World} {h h' : Heap} {a : Addr} {f : Str → Option Value} (x : h.MapOf (strKind prog w) a f) (k : ∀ b o, h.get? b = some o → h'.get? b = some o) : h'.MapOf (strKind prog w) a f :=
  x.elim fun o x => x.elim fun es x => x.elim fun ep x => ⟨o, es, ep, k _ _ x.1, x.2⟩
theorem Pats.keeps {prog : Program} {w : World} {h h' : Heap} (x : Pats prog w h) (k : ∀ b o, h.get? b = some o → h'.get? b = some o) : Pats prog w h' :=
  ⟨x.flags.keeps k, x.name.imp fun _ y => y.keeps k, x.value.imp fun _ y => y.keeps k, x.grp.imp fun _ y => mapOf_keeps y k⟩
theorem PatAt.obj {h : Heap} {a : Addr} {kind groups : Nat} {code : List Nat} {d : Value} (x : PatAt h a kind groups code d) : ∃ o, h.get? a = some o ∧ o.cls = .type "re.Pattern" ∧ o.dict = none := by
  obtain ⟨_, _, _, _, _, _, e⟩ := x
  exact ⟨_, e, rfl, rfl⟩
theorem gm_str {prog : Program} {w : World} {A : Around} {s : Shared} {E : Value → Shared → Prop} {n : Str} {id : String} (slot : Slot "str" n id) (ty : typeOf (.builtin id) = pure (.type "method_descriptor")) {x : Str} {t : Tok} {pl : Sem Bool} {Q : Value × List Value → Shared → Prop} (hq : Q (.builtin id, [.str x t]) s) : wpAny (model prog w) A (getMethod (.str x t) n pl) Q E s :=
  getMethod_builtin (typeIs_str _ _ _) F.plainAttrs_str slot ty (fun _ e => nomatch e) hq
noncomputable def MethIs (prog : Program) (w : World) (hb : Heap) (σ : Sto) (n : Str) (self : V) (args : List V) (r : V) : Prop := ∃ id : String,
    (∀ {A φ s u pl} {Q : Value × List Value → Shared → Prop} {E : Value → Shared → Prop}, (∀ b o, hb.get? b = some o → s.heap.get? b = some o) → RepV φ s.heap u self → Q (.builtin id, [u]) s → wpAny (model prog w) A (getMethod u n pl) Q E s) ∧
    (∀ {A φ s u us} {Q : Value → Shared → Prop} {E : Value → Shared → Prop}, AOk A 10 → StoOk hb φ σ s.heap → RepV φ s.heap u self → RepVs φ s.heap us args → (∀ v s', Kp s s' → RepV φ s'.heap v r → Q v s') → wpAny (model prog w) A (call (.builtin id) (u :: us)) Q E s)
section
variable {prog : Program} {w : World} {hb : Heap} {σ : Sto} {l m : List Nat} {x : V}
theorem gm_str' {n : Str} {id : String} (slot : Slot "str" n id) (ty : typeOf (.builtin id) = pure (.type "method_descriptor")) {A : Around} {φ : Ap} {s : Shared} {u : Value} {pl : Sem Bool} {Q : Value × List Value → Shared → Prop} {E : Value → Shared → Prop} (_ : ∀ b o, hb.get? b = some o → s.heap.get? b = some o) (ru : RepV φ s.heap u (.p (.str l))) (hq : Q (.builtin id, [u]) s) : wpAny (model prog w) A (getMethod u n pl) Q E s := by
  obtain ⟨t, rfl⟩ := repV_str ru; exact gm_str slot ty hq
theorem gm_pat {n : Str} {id : String} {k kind groups : Nat} {code : List Nat} {d : Value} (slot : Slot "re.Pattern" n id) (ty : typeOf (.builtin id) = pure (.type "method_descriptor")) (PA : PatAt hb (patAddr k) kind groups code d) {A : Around} {φ : Ap} {s : Shared} {u : Value} {pl : Sem Bool} {Q : Value × List Value → Shared → Prop} {E : Value → Shared → Prop} (kp : ∀ b o, hb.get? b = some o → s.heap.get? b = some o) (ru : RepV φ s.heap u (.pat k)) (hq : Q (.builtin id, [u]) s) : wpAny (model prog w) A (getMethod u n pl) Q E s := by
  obtain rfl : u = .ref (patAddr k) := ru.inv
  obtain ⟨o, ho, hoc, hod⟩ := (PA.keeps kp).obj
  exact getMethod_builtin ⟨o, ho, hoc⟩ plainAttrs_pat slot ty (fun _ e => by cases e; exact ⟨o, ho, hod⟩) hq
theorem me_lower (el : lower1 l = some m) : MethIs prog w hb σ "lower" (.p (.str l)) [] (.p (.str m)) := ⟨"str.lower", gm_str' F.slot_str_lower F.type_str_lower, fun _ _ ru rus h => by
  obtain ⟨t, rfl⟩ := repV_str ru
  cases rus
  exact l_lower el h⟩
theorem me_join {L : List D} {ss : List (List Nat)} (el : lst? σ x = some L) (es : strs? L = some ss) (hz : (ss.map List.length).sum + ss.length * l.length ≤ lim) : MethIs prog w hb σ "join" (.p (.str l)) [x] (.p (.str (joinL l ss))) := ⟨"str.join", gm_str' F.slot_str_join F.type_str_join, fun _ O ru rus h => by
  obtain ⟨t, rfl⟩ := repV_str ru
  cases rus with
  | cons r1 rr =>
    cases rr
    exact l_join O r1 el es hz h⟩
theorem me_encode (hall : l.all (· < 256) = true) (hz : l.length ≤ lim) : MethIs prog w hb σ "encode" (.p (.str l)) [.p (.str latin)] (.p (.bytes l)) := ⟨"str.encode", gm_str' F.slot_str_encode F.type_str_encode, fun _ O ru rus h => by
  obtain ⟨t, rfl⟩ := repV_str ru
  cases rus with
  | cons r1 rr =>
    cases rr
    obtain ⟨t', rfl⟩ := repV_str r1
    exact l_encode hall hz h⟩
theorem me_split (hz : l.length < lim) : MethIs prog w hb σ "split" (.p (.bytes l)) [] (.p (.list ((splitWs (l.length + 1) l).map .bytes))) := ⟨"bytes.split", fun _ ru hq => by
  obtain ⟨b, t, rfl, hb⟩ := repD_bytes (repV_p ru)
  exact getMethod_builtin (typeIs_bytes _ _ _) FB.plainAttrs_bytes slot_bytes_split type_bytes_split (fun _ e => nomatch e) hq, fun _ O ru rus h => by
  obtain ⟨b, t, rfl, rfl⟩ := repD_bytes (repV_p ru)
  cases rus
  rw [List.length_map, Array.length_toList] at hz h
  exact l_split O (Nat.le_of_lt_succ (show b.size < 16777215 + 1 from hz)) h⟩
theorem me_match (P : Pats prog w hb) (hz : l.length ≤ lim) : MethIs prog w hb σ "match" (.pat 0) [.p (.bytes l)] (((flagsIn l).map V.mat).getD (.p .none)) := ⟨"re.Pattern.match", gm_pat (k := 0) slot_pat_match type_pat_match P.flags, fun _ O ru rus h => by
  obtain rfl : _ = Value.ref (patAddr 0) := ru.inv
  cases rus with
  | cons r1 rr =>
    cases rr
    obtain ⟨b, t, rfl, rfl⟩ := repD_bytes (repV_p r1)
    rw [List.length_map, Array.length_toList] at hz
    exact l_match O (P.flags.keeps O.base) hz h⟩
theorem me_search {k : Nat} {code : List Nat} {d : Value} (hkc : (k = 1 ∧ code = nameCode) ∨ (k = 2 ∧ code = valueCode)) (PA : PatAt hb (patAddr k) 0 0 code d) (hb' : l.any (bad k) = false) (hz : l.length ≤ lim) : MethIs prog w hb σ "search" (.pat k) [.p (.str l)] (.p .none) := ⟨"re.Pattern.search", gm_pat slot_pat_search type_pat_search PA, fun _ O ru rus h => by
  obtain rfl : _ = Value.ref (patAddr k) := ru.inv
  cases rus with
  | cons r1 rr =>
    cases rr
    obtain ⟨t, rfl⟩ := repV_str r1
    exact l_search hkc (PA.keeps O.base) hb' hz (h _ _ (Kp.refl _) (.p .none))⟩
theorem me_group (P : Pats prog w hb) : MethIs prog w hb σ "group" (.mat l) [.p (.str flagsName)] (.p (.bytes l)) := ⟨"re.Match.group", fun k ru hq => by
  obtain ⟨a, rfl, x⟩ := ru.inv
  cases x with
  | mk b t i j v2 v3 v4 x0 x1 ta e1 => exact getMethod_builtin ⟨_, e1, rfl⟩ plainAttrs_mat slot_mat_group type_mat_group (fun _ e => by cases e; exact ⟨_, e1, rfl⟩) hq, fun _ O ru rus h => by
  obtain ⟨a, rfl, x⟩ := ru.inv
  cases rus with
  | cons r1 rr =>
    cases rr
    obtain ⟨t, rfl⟩ := repV_str r1
    obtain ⟨t1, hm⟩ := (P.keeps O.base).grp
    exact l_group (hb := hb) (σ := σ) hm (P.flags.keeps O.base) x h⟩
theorem me_str {n : Str} {args : List V} {r : V} (e : methStr σ n l args = some r) : MethIs prog w hb σ n (.p (.str l)) args r := by
  cases args with
  | nil => exact gk e fun hn e => mk' e fun m el e => by rw [eq_of_beq hn, ← e]; exact me_lower el
  | cons x rest =>
    refine ok e (fun e => gk e fun hn e => bk e fun L el e => bk e fun ss es e => gk e fun hz e => ?_) fun e => gk e fun hn e => bk e fun c ec e => gk e fun hc e => ?_
    · rw [List.isEmpty_iff.mp (an hn).1, eq_of_beq (an hn).2, ← Option.some.inj e]; exact me_join el es (of_decide_eq_true hz)
    · rw [List.isEmpty_iff.mp (an hn).1, eq_of_beq (an hn).2, ← Option.some.inj e, isStr ec, eq_of_beq (an (an hc).1).1]; exact me_encode (an (an hc).1).2 (of_decide_eq_true (an hc).2)
theorem me_pat (P : Pats prog w hb) {n : Str} {k : Nat} {r : V} (e : methPat n k x = some r) : MethIs prog w hb σ n (.pat k) [x] r := by
  refine ok e (fun e => bk e fun b eb e => gk e fun hc e => ?_) fun e => bk e fun s es e => gk e fun hc e => ?_
  · rw [eq_of_beq (an (an hc).1).1, eq_of_beq (an (an hc).1).2, isBytes eb, ← Option.some.inj e]; exact me_match P (of_decide_eq_true (an hc).2)
  · have hb' : s.any (bad k) = false := Bool.not_eq_true' _ ▸ (an (an hc).1).2
    rw [eq_of_beq (an (an (an hc).1).1).2, isStr es, ← Option.some.inj e]
    have hk : k = 1 ∨ k = 2 := (Bool.or_eq_true _ _ ▸ (an (an (an hc).1).1).1).imp eq_of_beq eq_of_beq
    rcases hk with rfl | rfl
    · exact P.name.elim fun d PA => me_search (.inl ⟨rfl, rfl⟩) PA hb' (of_decide_eq_true (an hc).2)
    · exact P.value.elim fun d PA => me_search (.inr ⟨rfl, rfl⟩) PA hb' (of_decide_eq_true (an hc).2)
theorem me_all (P : Pats prog w hb) {C : Ctx} {n : Str} {self r : V} {args : List V} (e : methV C σ n self args = some r) (hnh : ∀ i, self ≠ .hdr i) : MethIs prog w hb σ n self args r := by
  cases self with
  | hdr i => exact absurd rfl (hnh i)
  | p d =>
    refine ok e (fun e => bk e fun s es e => ?_) fun e => bk e fun b eb e => gk e fun hc e => ?_
    · rw [dStr es]; exact me_str e
    · rw [dBytes eb, List.isEmpty_iff.mp (an (an hc).1).1, eq_of_beq (an (an hc).1).2, ← Option.some.inj e]; exact me_split (of_decide_eq_true (an hc).2)
  | pat k => exact bk e fun x ex e => by rw [one_some ex]; exact me_pat P e
  | mat g => exact bk e fun x ex e => bk e fun m em e => gk e fun hc e => by rw [one_some ex, isStr em, eq_of_beq (an hc).1, eq_of_beq (an hc).2, ← Option.some.inj e]; exact me_group P
  | own _ => exact nn e
  | typ _ => exact nn e
  | rng _ _ _ => exact nn e
  | any => exact nn e
end
theorem prims_ok {prog : Program} {w : World} {hb : Heap} (P : Pats prog w hb) : Prims prog w hb where
  hmod := fun a b t v r ha hb h => l_mod a b t v r ha hb h
  tmat := fun x h => t_mat (s := ⟨_, _, _, _, _⟩) x h
  meth := fun e hnh => me_all P e hnh
-- S39
noncomputable def Kc (P : Params) : Frag := [(260, hdrNs P), (261, hdrCls)]
theorem in_contains (P : Params) : findIn (Kc P) (.ref 261) "__contains__" = some (some (.ref 193)) := by kernel_rfl
theorem in_getitem (P : Params) : findIn (Kc P) (.ref 261) "__getitem__" = some (some (.ref 186)) := by kernel_rfl
theorem in_setitem (P : Params) : findIn (Kc P) (.ref 261) "__setitem__" = some (some (.ref 174)) := by kernel_rfl
theorem in_delitem (P : Params) : findIn (Kc P) (.ref 261) "__delitem__" = some (some (.ref 179)) := by kernel_rfl
theorem in_len (P : Params) : findIn (Kc P) (.ref 261) "__len__" = some (some (.ref 167)) := by kernel_rfl
theorem in_str (P : Params) : findIn (Kc P) (.ref 261) "__str__" = some (some (.ref 237)) := by kernel_rfl
theorem in_bytes (P : Params) : findIn (Kc P) (.ref 261) "__bytes__" = some (some (.ref 244)) := by kernel_rfl
theorem in_getattribute (P : Params) : findIn (Kc P) (.ref 261) "__getattribute__" = some (some (.builtin "object.__getattribute__")) := by kernel_rfl
theorem in_getattr (P : Params) : findIn (Kc P) (.ref 261) "__getattr__" = some none := by kernel_rfl
theorem in_init (P : Params) : findIn (Kc P) (.ref 261) "__init__" = some (some (.ref 153)) := by kernel_rfl
theorem in_noseq (P : Params) : noSeq (Kc P) 261 = true := by kernel_rfl
noncomputable def FnOb (h : Heap) (f : Addr) : Prop := ∃ o fd, h.get? f = some o ∧ o.cls = .type "function" ∧ o.data = .func fd
-- S40
theorem FnOb.keeps {h h' : Heap} {f : Addr} (x : FnOb h f) (k : ∀ b o, h.get? b = some o → h'.get? b = some o) : FnOb h' f :=
  let ⟨o, fd, e, r⟩ := x; ⟨o, fd, k _ _ e, r⟩
theorem FnOb.bind {M : Model} {h : Heap} {f : Addr} (x : FnOb h f) (self : Value) : Looks M h (bindSpecial (.ref f) self) (.ref f, [self]) := by
  obtain ⟨o, fd, e, ec, ed⟩ := x
  unfold bindSpecial
  have t : Looks M h (typeOf (.ref f)) (.type "function") := ec ▸ (Looks.ld e).andThen .now
  exact t.andThen (Looks.of_pure (by kernel_rfl))
theorem Hd.inst {φ : List Addr} {h : Heap} {a b : Addr} (x : Hd φ h a b) : ∃ dx n hs t, InstAt h a (instObj 261 dx) 261 (some (dictOf [⟨hs, .str (Str.ofString "_headers") t, .ref b⟩] n)) := by
  obtain ⟨dx, n, hs, t, e1, e2, _, _⟩ := x
  exact ⟨dx, n, hs, t, e1, rfl, rfl, e2⟩
section
variable {M : Model} {A : Around} {E : Value → Shared → Prop} {s : Shared} {K : Frag} {x C f : Addr} {ox : Obj} {od : Option Obj} {i v : Value}
theorem sp_fn {name : Str} {args : List Value} {Q : Option Value → Shared → Prop} (X : K.In s.heap) (I : InstAt s.heap x ox C od) (hs : findIn K (.ref C) name = some (some (.ref f))) (F : FnOb s.heap f)
    (h : wpAny M A (call (.ref f) (.ref x :: args)) (fun v => Q (some v)) E s) : wpAny M A (callSpecial? (.ref x) name args) Q E s :=
  wpAny_bind (wpAny_bind (I.type.here ((looks_findIn X hs).here (wpAny_holding (wpAny_bind ((F.bind _).here (wpAny_bind (wpAny_mono h (fun _ _ z => wpAny_pure z) fun _ _ z => z))))))))
theorem sp_un {name : Str} {args : List Value} {refuse : Sem Value} {Q : Option Value → Shared → Prop} (X : K.In s.heap) (I : InstAt s.heap x ox C od) (hs : findIn K (.ref C) name = some (some (.ref f))) (F : FnOb s.heap f)
    (h : wpAny M A (call (.ref f) (.ref x :: args)) (fun v => Q (some v)) E s) : wpAny M A (callSpecialUnlessNone? (.ref x) name args refuse) Q E s := by
  unfold callSpecialUnlessNone?
  refine wpAny_bind (wpAny_bind (I.type.here ((looks_findIn X hs).here ?_)))
  refine wpAny_holding (wpAny_bind ((F.bind _).here ?_))
  dsimp only
  rw [if_neg (by simp)]
  exact wpAny_bind (wpAny_mono h (fun _ _ z => wpAny_pure z) fun _ _ z => z)
theorem h_contains {Q : Bool → Shared → Prop} (X : K.In s.heap) (I : InstAt s.heap x ox C od) (hs : findIn K (.ref C) "__contains__" = some (some (.ref f))) (F : FnOb s.heap f)
    (h : wpAny M A (call (.ref f) [.ref x, v]) (fun r s' => wpAny M A (truthy r) Q E s') E s) : wpAny M A (contains (.ref x) v) Q E s := by
  unfold contains
  refine wpAny_holding (wpAny_bind (wpAny_bind (I.type.here ((looks_findIn X hs).here ?_))))
  rw [if_neg (by simp)]
  exact wpAny_bind (sp_un X I hs F h)
theorem h_setItem {Q : Unit → Shared → Prop} (X : K.In s.heap) (I : InstAt s.heap x ox C od) (hq : noSeq K C = true) (hs : findIn K (.ref C) "__setitem__" = some (some (.ref f))) (F : FnOb s.heap f)
    (h : wpAny M A (call (.ref f) [.ref x, i, v]) (fun _ s' => Q () s') E s) : wpAny M A (setItem (.ref x) i v) Q E s := by
  unfold setItem sequenceKey
  refine wpAny_holding (wpAny_bind (wpAny_bind (I.type.here ?_)))
  refine wpAny_bind ((anyM_none X hq).here ?_)
  rw [if_pos (show (!false) = true from rfl)]
  exact wpAny_pure (wpAny_bind (sp_fn X I hs F (wpAny_mono h (fun _ _ z => wpAny_pure z) fun _ _ z => z)))
theorem h_delItem {Q : Unit → Shared → Prop} (X : K.In s.heap) (I : InstAt s.heap x ox C od) (hq : noSeq K C = true) (hs : findIn K (.ref C) "__delitem__" = some (some (.ref f))) (F : FnOb s.heap f)
    (h : wpAny M A (call (.ref f) [.ref x, i]) (fun _ s' => Q () s') E s) : wpAny M A (delItem (.ref x) i) Q E s := by
  unfold delItem sequenceKey
  refine wpAny_holding (wpAny_bind (wpAny_bind (I.type.here ?_)))
  refine wpAny_bind ((anyM_none X hq).here ?_)
  rw [if_pos (show (!false) = true from rfl)]
  exact wpAny_pure (wpAny_bind (sp_fn X I hs F (wpAny_mono h (fun _ _ z => wpAny_pure z) fun _ _ z => z)))
end
section
variable {prog : Program} {w : World} {A : Around} {E : Value → Shared → Prop} {s : Shared} {K : Frag} {x C f : Addr} {ox : Obj} {od : Option Obj} {v : Value}
theorem h_sub {value slice : Expr} {i : Value} {Q : Value → Shared → Prop} (X : K.In s.heap) (I : InstAt s.heap x ox C od) (hs : findIn K (.ref C) "__getitem__" = some (some (.ref f))) (F : FnOb s.heap f)
    (h : wpAny (model prog w) A.in1 (call (.ref f) [.ref x, i]) Q E s)
    (hsl : subscripted slice true (.ref x) i = runValue (.builtin "lifetime.subscript" ⟨[.ref x, i], []⟩)) :
    wpAny (model prog w) A (subscriptTail value slice (.ref x) i) Q E s := by
  obtain ⟨o, fd, e, ec, ed⟩ := id F
  unfold subscriptTail getitemInPython
  refine wpAny_bind (wpAny_bind (wpAny_bind (I.type.here ((looks_findIn X hs).here ?_))))
  dsimp only
  refine wpAny_bind (wpAny_load e ?_)
  rw [ed]
  refine wpAny_pure ?_
  dsimp only
  rw [hsl]
  refine wpAny_bind (wpAny_runValue (codeAny_builtin entry_sub ?_))
  unfold Builtin.«lifetime.subscript»
  refine wpAny_bind (sp_fn X I hs F (wpAny_mono h (fun v s' z => ?_) fun _ _ z => z))
  refine wpAny_pure ?_
  show wpAny (model prog w) A (letTemporaryGo value (.ref x) v >>= fun _ => pure v) Q E s'
  exact wpAny_bind (wpAny_letTemporaryGo (wpAny_pure z))
end
-- S41
section
variable {M : Model} {A : Around} {E : Value → Shared → Prop} {s : Shared} {K : Frag} {x C f dx : Addr} {ox od : Obj}
theorem FnOb.type {h : Heap} (x : FnOb h f) : Looks M h (typeOf (.ref f)) (.type "function") := by
  obtain ⟨o, fd, e, ec, ed⟩ := x
  exact ec ▸ (Looks.ld e).andThen .now
theorem h_method {name : Str} {pl : Sem Bool} {Q : Value × List Value → Shared → Prop} (X : K.In s.heap) (I : InstAt s.heap x ox C (some od)) (hga : findIn K (.ref C) "__getattribute__" = some (some (.builtin "object.__getattribute__"))) (hgn : findIn K (.ref C) "__getattr__" = some none)
    (hs : findIn K (.ref C) name = some (some (.ref f))) (F : FnOb s.heap f) (hox : ox.dict = some dx) (hl : lookIn name od = some none) (h : Q (.ref f, [.ref x]) s) : wpAny M A (getMethod (.ref x) name pl) Q E s := by
  have hd := I.dict
  rw [hox] at hd
  have hd : s.heap.get? dx = some od := hd
  unfold getMethod
  refine wpAny_bind (wpAny_bind (I.type.here ((looks_findIn X hga).here ?_)))
  dsimp only
  rw [if_neg (by decide +kernel)]
  refine wpAny_bind (wpAny_bind (I.type.here ((looks_findIn X hgn).here ?_)))
  rw [if_neg (by simp)]
  refine wpAny_bind (wpAny_bind (I.type.here ((looks_findIn X hs).here ?_)))
  dsimp only
  refine wpAny_bind (F.type.here ?_)
  rw [if_neg (by decide)]
  refine wpAny_bind (wpAny_loadPart I.at_ ?_)
  rw [hox]
  dsimp only
  refine wpAny_bind (m := nsGet dx name) (wpAny_bind (wpAny_loadPart hd ?_))
  rw [nsLook_of hl]
  refine wpAny_pure ?_
  rw [if_neg (by simp)]
  exact wpAny_bind (wpAny_rule (wpAny_pure h))
end
-- S42
structure HdrOk (P : Params) (h : Heap) : Prop where
  frag : (Kc P).In h
  fn : ∀ f ∈ ([153, 160, 167, 174, 179, 186, 193, 208, 213, 225, 237, 244] : List Addr), FnOb h f
theorem HdrOk.keeps {P : Params} {h h' : Heap} (x : HdrOk P h) (k : ∀ b o, h.get? b = some o → h'.get? b = some o) : HdrOk P h' :=
  ⟨x.frag.keeps k, fun f m => (x.fn f m).keeps k⟩
section
variable {prog : Program} {w : World} {hb : Heap} {P : Params} {A : Around} {φ : Ap} {σ : Sto} {s : Shared} {E : Value → Shared → Prop} {m : Nat} {a : Addr} {i : Nat} {u v : Value} {d e : D} {f : Sto → List V → Option V}
theorem hdr_rep (r : RepV φ s.heap (.ref a) (.hdr i)) : ∃ b, φ.ix[i]? = some b ∧ Hd φ.all s.heap a b := by
  cases r with | hdr q x => exact ⟨_, q, x⟩
theorem f_contains (H : HdrOk P hb) (cp : CallP prog w hb m (.ref 193) f) {b : Bool} {Q : Bool → Shared → Prop} (hA : AOk A m) (O : StoOk hb φ σ s.heap) (r : RepV φ s.heap (.ref a) (.hdr i)) (ru : RepD φ.all s.heap u d) (ef : f σ [.hdr i, .p d] = some (.p (.bool b)))
    (h : ∀ s', Kp s s' → Q b s') : wpAny (model prog w) A (contains (.ref a) u) Q E s := by
  obtain ⟨b', q, x⟩ := hdr_rep r
  obtain ⟨dx, n, hs, t, I⟩ := x.inst
  have H' := H.keeps O.base
  refine h_contains H'.frag I (in_contains P) (H'.fn 193 (by decide)) (cp A φ σ _ _ _ s _ E hA O (.cons r (.cons (.p ru) .nil)) ef fun u' s' k ru' => ?_)
  rw [repD_bool (repV_p ru')]
  exact wpAny_truthy_bool (h s' k)
theorem f_inH (H : HdrOk P hb) (cp : CallP prog w hb m (.ref 193) f) {b : Bool} {Q : Value → Shared → Prop} (hA : AOk A m) (O : StoOk hb φ σ s.heap) (r : RepV φ s.heap (.ref a) (.hdr i)) (ru : RepD φ.all s.heap u d) (ef : f σ [.hdr i, .p d] = some (.p (.bool b)))
    (h : ∀ s', Kp s s' → Q (.bool b) s') : wpAny (model prog w) A (compareOp .In u (.ref a)) Q E s :=
  wpAny_bind (f_contains H cp hA O r ru ef fun s' k => wpAny_pure (h s' k))
theorem f_notInH (H : HdrOk P hb) (cp : CallP prog w hb m (.ref 193) f) {b : Bool} {Q : Value → Shared → Prop} (hA : AOk A m) (O : StoOk hb φ σ s.heap) (r : RepV φ s.heap (.ref a) (.hdr i)) (ru : RepD φ.all s.heap u d) (ef : f σ [.hdr i, .p d] = some (.p (.bool b)))
    (h : ∀ s', Kp s s' → Q (.bool (!b)) s') : wpAny (model prog w) A (compareOp .NotIn u (.ref a)) Q E s :=
  wpAny_bind (f_contains H cp hA O r ru ef fun s' k => wpAny_pure (h s' k))
theorem subscripted_dunder {slice : Expr} (hs : ∀ l h st p, slice ≠ .Slice l h st p) (o i : Value) : subscripted slice true o i = runValue (.builtin "lifetime.subscript" ⟨[o, i], []⟩) := by
  unfold subscripted
  split
  · exact absurd rfl (hs _ _ _ _)
  · rfl
  · rename_i h; cases h
theorem f_getH (H : HdrOk P hb) (cp : CallP prog w hb m (.ref 186) f) {r : V} {value slice : Expr} {Q : Value → Shared → Prop} (hA : AOk A (m + 1)) (O : StoOk hb φ σ s.heap) (rr : RepV φ s.heap (.ref a) (.hdr i)) (ru : RepD φ.all s.heap u d) (ef : f σ [.hdr i, .p d] = some r)
    (hs : ∀ l h st p, slice ≠ .Slice l h st p) (h : ∀ v s', Kp s s' → RepV φ s'.heap v r → Q v s') : wpAny (model prog w) A (subscriptTail value slice (.ref a) u) Q E s := by
  obtain ⟨b', q, x⟩ := hdr_rep rr
  obtain ⟨dx, n, hs', t, I⟩ := x.inst
  have H' := H.keeps O.base
  exact h_sub H'.frag I (in_getitem P) (H'.fn 186 (by decide)) (cp A.in1 φ σ _ _ _ s _ E hA.in1 O (.cons rr (.cons (.p ru) .nil)) ef h) (subscripted_dunder hs _ _)
theorem f_hset {g : Sto → List V → Option (V × Sto)} (H : HdrOk P hb) (cp : CallA prog w hb m (.ref 174) g) {σ' : Sto} {Q : Unit → Shared → Prop} (hA : AOk A m) (O : StoOk hb φ σ s.heap) (r : RepV φ s.heap (.ref a) (.hdr i)) (ru : RepD φ.all s.heap u d) (rv : RepD φ.all s.heap v e)
    (ef : (g σ [.hdr i, .p d, .p e]).map (·.2) = some σ') (h : ∀ s', KpS φ s s' → StoOk hb φ σ' s'.heap → Q () s') : wpAny (model prog w) A (setItem (.ref a) u v) Q E s := by
  obtain ⟨b', q, x⟩ := hdr_rep r
  obtain ⟨dx, n, hs', t, I⟩ := x.inst
  have H' := H.keeps O.base
  obtain ⟨⟨rv', σ''⟩, eg, rfl⟩ := Option.map_eq_some_iff.mp ef
  exact h_setItem H'.frag I (in_noseq P) (in_setitem P) (H'.fn 174 (by decide)) (cp A φ σ _ _ _ _ s _ E hA O (.cons r (.cons (.p ru) (.cons (.p rv) .nil))) eg fun _ s' k O' _ => h s' k O')
theorem f_hdel {g : Sto → List V → Option (V × Sto)} (H : HdrOk P hb) (cp : CallA prog w hb m (.ref 179) g) {σ' : Sto} {Q : Unit → Shared → Prop} (hA : AOk A m) (O : StoOk hb φ σ s.heap) (r : RepV φ s.heap (.ref a) (.hdr i)) (ru : RepD φ.all s.heap u d)
    (ef : (g σ [.hdr i, .p d]).map (·.2) = some σ') (h : ∀ s', KpS φ s s' → StoOk hb φ σ' s'.heap → Q () s') : wpAny (model prog w) A (delItem (.ref a) u) Q E s := by
  obtain ⟨b', q, x⟩ := hdr_rep r
  obtain ⟨dx, n, hs', t, I⟩ := x.inst
  have H' := H.keeps O.base
  obtain ⟨⟨rv', σ''⟩, eg, rfl⟩ := Option.map_eq_some_iff.mp ef
  exact h_delItem H'.frag I (in_noseq P) (in_delitem P) (H'.fn 179 (by decide)) (cp A φ σ _ _ _ _ s _ E hA O (.cons r (.cons (.p ru) .nil)) eg fun _ s' k O' _ => h s' k O')
theorem f_meth (H : HdrOk P hb) {n : Str} {fa : Addr} (hf : fa ∈ ([153, 160, 167, 174, 179, 186, 193, 208, 213, 225, 237, 244] : List Addr)) (hs : findIn (Kc P) (.ref 261) n = some (some (.ref fa))) (hn : (Str.ofString "_headers" == n) = false) {pl : Sem Bool} {Q : Value × List Value → Shared → Prop} (O : StoOk hb φ σ s.heap) (r : RepV φ s.heap (.ref a) (.hdr i)) (h : Q (.ref fa, [.ref a]) s) :
    wpAny (model prog w) A (getMethod (.ref a) n pl) Q E s := by
  obtain ⟨b', q, x⟩ := hdr_rep r
  obtain ⟨dx, n', hs', t, I⟩ := x.inst
  have H' := H.keeps O.base
  refine h_method H'.frag I (in_getattribute P) (in_getattr P) hs (H'.fn fa hf) rfl ?_ h
  simp [lookIn, dictOf, Value.isStr, hn, DictEntry.refKey]
theorem f_attr (H : HdrOk P hb) {value : Expr} {Q : Value → Shared → Prop} (O : StoOk hb φ σ s.heap) (r : RepV φ s.heap (.ref a) (.hdr i)) (h : ∀ u s', Kp s s' → RepV φ s'.heap u (.own i) → Q u s') :
    wpAny (model prog w) A (do let r ← holding [.ref a] (getAttr (.ref a) "_headers" true); letTemporaryGo value (.ref a) r; pure r) Q E s := by
  obtain ⟨b', q, x⟩ := hdr_rep r
  obtain ⟨dx, n', hs', t, I⟩ := x.inst
  have H' := H.keeps O.base
  refine wpAny_bind (wpAny_holding (get_value (v := .ref b') H'.frag I (in_getattribute P) ?_ rfl ?_))
  · rfl
  · exact wpAny_bind (wpAny_letTemporaryGo (wpAny_pure (h _ _ (Kp.toks _ _) (.own q))))
end
-- S43
section
variable {prog : Program} {w : World} {A : Around} {E : Value → Shared → Prop} {s : Shared} {K : Frag} {x C f : Addr} {ox : Obj} {od : Option Obj}
open Builtin Builtin.Str in
theorem h_strOf {Q : Value → Shared → Prop} (hu : A.units < cLine) (X : K.In s.heap) (I : InstAt s.heap x ox C od) (hs : findIn K (.ref C) "__str__" = some (some (.ref f))) (F : FnOb s.heap f)
    (h : wpAny (model prog w) A (call (.ref f) [.ref x]) (StrBack Q) E s) : wpAny (model prog w) A (PySem.Builtin.Str.strOf (.ref x)) Q E s := by
  unfold PySem.Builtin.Str.strOf
  rw [show isExactStr (.ref x) = false from rfl]
  refine wpAny_bind (m := cRoomFor _ _) (wpAny_cRoomFor hu ?_)
  refine wpAny_bind (m := callSpecial? (.ref x) (Str.ofString "__str__")) (sp_fn X I hs F (wpAny_mono h (fun r s' hr => ?_) fun _ _ y => y))
  cases r <;> first | exact hr.elim | exact wpAny_pure hr
open Builtin Builtin.Str in
theorem h_str {Q : Value → Shared → Prop} (hu : A.in1.in1.units < cLine) (X : K.In s.heap) (I : InstAt s.heap x ox C od) (hs : findIn K (.ref C) "__str__" = some (some (.ref f))) (F : FnOb s.heap f)
    (h : wpAny (model prog w) A.in1.in1 (call (.ref f) [.ref x]) (StrBack Q) E s) : wpAny (model prog w) A (call (.type "str") [.ref x]) Q E s := by
  refine callType_codes (T := "str") (Bi := Builtin.«object.__init__») (Q₁ := fun r s₁ => ∃ y u, r = .str y u ∧ Q r s₁) PySem.F.called_str (PySem.F.typeCall_str_1 _) PySem.F.entry_object_init ?_ ?_
  · refine codeAny_of_tree ?_
    show wpAny _ A.in1.in1 (do checkBuiltinCall "str.__new__" ⟨[.type "str", .ref x], []⟩; again (.builtin "str.__new__" ⟨[.type "str", .ref x], []⟩)) _ _ s
    refine wpAny_bind (wpAny_of_eq (PySem.F.newCall_str_1 _) (wpAny_pure ⟨plainId_quiet (by decide +kernel) _, codeAny_builtin PySem.F.entry_str_new ?_⟩))
    rw [Around.under_plainId (by decide +kernel) _]
    rw [str_new_tree]
    refine wpAny_bind (wpAny_pure ?_)
    refine wpAny_bind (wpAny_of_eq isSubtype_str_str ?_)
    refine wpAny_bind (wpAny_mono (h_strOf hu X I hs F (Q := fun r s₁ => ∃ y u, r = .str y u ∧ Q r s₁) (wpAny_mono h (fun r s₁ hr => ?_) fun _ _ y => y)) (fun r s₁ hr => wpAny_pure hr) fun _ _ y => y)
    cases r <;> first | exact hr.elim | exact ⟨_, _, rfl, hr⟩
  · rintro obj s₁ ⟨y, u, rfl, hq⟩
    exact ⟨typeIs_str _ _ _, PySem.F.args_object_init_2 _ _, object_init_meets PySem.F.called_str.init.lookup PySem.F.called_str.made (by decide) prog w A.in1 _ s₁ ⟨typeIs_str _ _ _, rfl, hq⟩⟩
theorem h_len {Q : Value → Shared → Prop} (X : K.In s.heap) (I : InstAt s.heap x ox C od) (hs : findIn K (.ref C) "__len__" = some (some (.ref f))) (F : FnOb s.heap f)
    (h : wpAny (model prog w) A.in1 (call (.ref f) [.ref x]) (PySem.W.LenBack Q) E s) : wpAny (model prog w) A (call (.builtin "len") [.ref x]) Q E s := by
  refine Calls.call_function_entry kind_len plain_len entry_len (args_len1 _) ?_
  unfold Builtin.«len»
  refine wpAny_bind (m := oneArg "len" _) (wpAny_pure ?_)
  refine wpAny_bind (m := callSpecial? (.ref x) (Str.ofString "__len__")) (sp_fn X I hs F (wpAny_mono h (fun r s' hr => ?_) fun _ _ y => y))
  cases r <;> first | exact hr.elim | skip
  rename_i n u
  obtain ⟨⟨h0, h1⟩, hq⟩ := hr
  refine wpAny_bind (wpAny_holding (wpAny_pure ?_))
  refine wpAny_bind (wpAny_letGo ?_)
  show wpAny _ _ (if n < 0 then _ else _) _ _ _
  rw [if_neg (by omega)]
  show wpAny _ _ (if n ≥ 2 ^ 63 then _ else _) _ _ _
  rw [if_neg (by omega)]
  exact wpAny_bind (wpAny_mkInt (wpAny_pure ⟨_, rfl, hq⟩))
end
-- S44
noncomputable def BytesBack (Q : Value → Shared → Prop) (v : Value) (s' : Shared) : Prop := match v with
  | .bytes a t => Q (.bytes a t) s'
  | _ => False
section
variable {prog : Program} {w : World} {A : Around} {E : Value → Shared → Prop} {s : Shared} {K : Frag} {x C f : Addr} {ox : Obj} {od : Option Obj}
theorem h_bytes {Q : Value → Shared → Prop} (X : K.In s.heap) (I : InstAt s.heap x ox C od) (hs : findIn K (.ref C) "__bytes__" = some (some (.ref f))) (F : FnOb s.heap f)
    (h : wpAny (model prog w) A.in1.in1 (call (.ref f) [.ref x]) (BytesBack Q) E s) : wpAny (model prog w) A (call (.type "bytes") [.ref x]) Q E s := by
  refine callType_codes (Q₁ := fun obj s₁ => s₁.TypeIs obj "bytes" ∧ Q obj s₁) PySem.F.bm_called (PySem.F.bm_typeCall _) PySem.F.entry_object_init ?_ fun obj s₁ h₁ => ?_
  · refine codeAny_of_tree ?_
    show wpAny _ A.in1.in1 (do checkBuiltinCall "bytes.__new__" ⟨[.type "bytes", .ref x], []⟩; again (.builtin "bytes.__new__" ⟨[.type "bytes", .ref x], []⟩)) _ _ s
    refine wpAny_bind (wpAny_of_eq (PySem.F.bm_newCall _) (wpAny_pure ⟨plainId_quiet PySem.F.bm_plain _, codeAny_builtin PySem.F.bm_entry ?_⟩))
    rw [Around.under_plainId PySem.F.bm_plain _]
    unfold Builtin.«bytes.__new__»
    refine wpAny_bind (wpAny_of_eq (a := true) rfl ?_)
    refine bm_if_false rfl ?_
    refine wpAny_bind (wpAny_of_eq PySem.F.bm_sub ?_)
    refine bm_if_false rfl ?_
    refine wpAny_bind (wpAny_of_eq (PySem.F.bm_bind _) ?_)
    refine wpAny_bind (wpAny_of_eq (a := ()) rfl ?_)
    refine wpAny_bind (wpAny_of_eq (a := ()) rfl ?_)
    refine bm_if_false rfl ?_
    refine wpAny_bind (wpAny_bind (I.type.here ((looks_findIn X hs).here ?_)))
    dsimp only
    refine wpAny_bind (wpAny_rule ?_)
    refine wpAny_bind (m := callSpecial? (.ref x) (Str.ofString "__bytes__")) (sp_fn X I hs F (wpAny_mono h (fun r s' hr => ?_) fun _ _ y => y))
    cases r <;> first | exact hr.elim | skip
    rename_i b t
    refine wpAny_bind (wpAny_isInstance (typeIs_bytes s' b t) sub_bytes_bytes ?_)
    refine bm_if_false rfl ?_
    exact wpAny_pure ⟨typeIs_bytes _ _ _, hr⟩
  · exact ⟨h₁.1, PySem.F.args_object_init_2 obj _, object_init_meets PySem.F.bm_called.init.lookup PySem.F.bm_called.made (by decide) prog w A.in1 _ s₁ ⟨h₁.1, rfl, h₁.2⟩⟩
end
-- S45
section
variable {prog : Program} {w : World} {hb : Heap} {P : Params} {A : Around} {φ : Ap} {σ : Sto} {s : Shared} {E : Value → Shared → Prop} {m : Nat} {a : Addr} {i : Nat} {f : Sto → List V → Option V} {Q : Value → Shared → Prop}
theorem f_len (H : HdrOk P hb) (cp : CallP prog w hb m (.ref 167) f) {n : Int} (hA : AOk A (m + 1)) (O : StoOk hb φ σ s.heap) (r : RepV φ s.heap (.ref a) (.hdr i)) (ef : f σ [.hdr i] = some (.p (.int n))) (h0 : 0 ≤ n) (h1 : n ≤ 1000000)
    (h : ∀ t s', Kp s s' → Q (.int n t) s') : wpAny (model prog w) A (call (.builtin "len") [.ref a]) Q E s := by
  obtain ⟨b', q, x⟩ := hdr_rep r
  obtain ⟨dx, n', hs', t, I⟩ := x.inst
  have H' := H.keeps O.base
  refine h_len H'.frag I (in_len P) (H'.fn 167 (by decide)) (cp A.in1 φ σ _ _ _ s _ E hA.in1 O (.cons r .nil) ef fun u s' k ru => ?_)
  obtain ⟨t', rfl⟩ := repV_int ru
  exact ⟨⟨h0, by omega⟩, h _ _ (k.trans (Kp.toks _ _))⟩
theorem f_str (H : HdrOk P hb) (cp : CallP prog w hb m (.ref 237) f) {b : List Nat} (hA : AOk A (m + 2)) (O : StoOk hb φ σ s.heap) (r : RepV φ s.heap (.ref a) (.hdr i)) (ef : f σ [.hdr i] = some (.p (.str b)))
    (h : ∀ u s', Kp s s' → RepV φ s'.heap u (.p (.str b)) → Q u s') : wpAny (model prog w) A (call (.type "str") [.ref a]) Q E s := by
  obtain ⟨b', q, x⟩ := hdr_rep r
  obtain ⟨dx, n', hs', t, I⟩ := x.inst
  have H' := H.keeps O.base
  have hA2 : AOk A.in1.in1 m := (AOk.in1 (m := m + 1) hA).in1
  refine h_str (by have := hA2.2.2; unfold cLine; omega) H'.frag I (in_str P) (H'.fn 237 (by decide)) (cp A.in1.in1 φ σ _ _ _ s _ E hA2 O (.cons r .nil) ef fun u s' k ru => ?_)
  obtain ⟨t', rfl⟩ := repV_str ru
  exact h _ _ k ru
theorem f_bytes (H : HdrOk P hb) (cp : CallP prog w hb m (.ref 244) f) {b : List Nat} (hA : AOk A (m + 2)) (O : StoOk hb φ σ s.heap) (r : RepV φ s.heap (.ref a) (.hdr i)) (ef : f σ [.hdr i] = some (.p (.bytes b)))
    (h : ∀ u s', Kp s s' → RepV φ s'.heap u (.p (.bytes b)) → Q u s') : wpAny (model prog w) A (call (.type "bytes") [.ref a]) Q E s := by
  obtain ⟨b', q, x⟩ := hdr_rep r
  obtain ⟨dx, n', hs', t, I⟩ := x.inst
  have H' := H.keeps O.base
  have hA2 : AOk A.in1.in1 m := (AOk.in1 (m := m + 1) hA).in1
  refine h_bytes H'.frag I (in_bytes P) (H'.fn 244 (by decide)) (cp A.in1.in1 φ σ _ _ _ s _ E hA2 O (.cons r .nil) ef fun u s' k ru => ?_)
  obtain ⟨c, t', rfl, hb⟩ := repD_bytes (repV_p ru)
  exact h _ _ k ru
end
-- S46
theorem in_makes (P : Params) : makesIn (Kc P) 261 = true := by kernel_rfl
theorem in_plainOver (P : Params) : plainOver (Kc P) 261 = true := by kernel_rfl
theorem in_taker (P : Params) : takerIn (Kc P) 261 "_headers" = some none := by kernel_rfl
theorem in_hasDict (P : Params) : (clsIn (Kc P) 261).any (·.hasDict) = true := by kernel_rfl
theorem in_setattr (P : Params) : findIn (Kc P) (.ref 261) "__setattr__" = some (some (.builtin "object.__setattr__")) := by kernel_rfl
section
variable {prog : Program} {w : World} {A : Around} {E : Value → Shared → Prop} {s : Shared} {P : Params} {x dx : Addr}
theorem f_setattr {v : Value} {Q : Unit → Shared → Prop} (X : (Kc P).In s.heap) (hx : s.heap.get? x = some (instObj 261 dx)) (hD : s.heap.get? dx = some emptyDict)
    (h : ∀ h' tk hs t n, (∀ b o, b ≠ dx → s.heap.get? b = some o → h'.get? b = some o) → h'.get? dx = some (dictOf [⟨hs, .str (Str.ofString "_headers") t, v⟩] n) → Q () { s with heap := h', toks := tk }) :
    wpAny (model prog w) A (setAttr (.ref x) "_headers" v) Q E s := by
  have I : InstAt s.heap x (instObj 261 dx) 261 (some emptyDict) := ⟨hx, rfl, rfl, hD⟩
  obtain ⟨hh, g, d, tk, os⟩ := s
  dsimp only at hx hD X I h
  refine set_plain X I (in_setattr P) (osa_open X I (in_plainOver P) (in_taker P) fun b => ?_)
  obtain ⟨cd, hc, hd'⟩ := any_some (in_hasDict P)
  refine wpAny_bind (wpAny_pure (wpAny_bind (wpAny_bind (wpAny_loadPart hx (wpAny_bind ((looks_clsIn X hc).here ?_))))))
  rw [hd']
  refine wpAny_pure (a := some dx) (wpAny_bind (wpAny_pure (wpAny_bind ?_)))
  unfold nsSet
  refine wpAny_bind (wpAny_bind (wpAny_askSetting (wpAny_pure (wpAny_bind (wpAny_mkText (wpAny_bind (wpAny_loadPart hD ?_)))))))
  dsimp only [emptyDict]
  rw [aRefKeyMayBeTheName_at, show ((!(#[] : Array DictEntry).any (fun e => e.key.isStr (Str.ofString "_headers"))) && (#[] : Array DictEntry).any (·.refKey)) = false from by simp]
  refine wpAny_updatePart hD ?_
  have D' := Heap.get?_update_self (h := hh) (a := dx) (Obj.putName (Str.ofString "_headers") (if (Str.ofString "_headers").cps.isEmpty = true then 0 else reduceHash ((model prog w).w.params.strHash (Str.ofString "_headers").cps)) (Value.str (Str.ofString "_headers") (tk + 1)) v) hD rfl
  refine wpAny_bind (wpAny_lookBehind D' rfl ?_)
  exact wpAny_pure (h _ _ _ (tk + 1) _ (fun b o hb e => (Heap.get?_update_ne _ _ _ _ hb).trans e) D')
end
-- S47
section
variable {prog : Program} {w : World} {hb : Heap} {mg mb : Str → Option Value} {m : Nat} {σ : Sto} {A : Around} {φ : Ap} {s : Shared}
theorem frame_fn (B : Base hb mg mb) {f : Addr} {fn : Fn} {fd : FuncData} (F : FnIs hb f fn fd) (hA : AOk A (m + 1)) (O : StoOk hb φ σ s.heap) {us full : List Value} {kw : List (Str × Value)} {vs : List V} {ρ : Rho} {R : Result → Shared → Prop}
    (bind : BindsTo s fd ⟨us, kw⟩ (fn.params.zip full)) (r : RepVs φ s.heap full vs) (eρ : bindP fn.params vs = some ρ)
    (h : ∀ (env : Env) (κ : List Addr) (s1 : Shared) (E : Value → Shared → Prop), Kp s s1 → AOk (A.deeper env) m → (∀ a ∈ κ, s.heap.get? a = none) → At hb env fn.sc ⟨φ.ix, κ ++ φ.pr⟩ κ ρ σ s1 → (∀ x u, (x, u) ∈ fn.params.zip full → Held env s1.heap x u) →
      wpAny (model prog w) (A.deeper env) (execs fn.bd env) (fun f s' => R (.ok (.ret (match f with | .ret v => v | _ => .none))) s') E s1) :
    codeAny (model prog w) A (.call (.ref f) ⟨us, kw⟩) R s := by
  obtain ⟨hlen, hzip⟩ := bindP_zip eρ r
  obtain ⟨o, ho, hd⟩ := F.at_
  have hnm : (fn.params.zip full).map (·.1) = fn.params := by
    rw [List.map_fst_zip]; omega
  have hroom : A.depth < recursionLimit := by
    have : recursionLimit = 1000 := by decide +kernel
    have := hA.2.1; omega
  have hparam : ∀ x u, (x, u) ∈ fn.params.zip full → x ∈ fn.params := fun x u hx => hnm ▸ List.mem_map.mpr ⟨_, hx, rfl⟩
  refine codeAny_call_function hroom (O.base f o ho) hd F.co F.gen F.body (F.code.keeps O.base) (bind _ _ _ _ ?_)
  rw [F.clo]
  refine wpAny_newFunctionEnv_cells F.kind (fun x hx => ?_) fun env he s1 x1 => ?_
  · have := (F.par x.1 (hparam x.1 x.2 hx)).1
    rw [← F.names] at this
    refine this.imp id fun q => ⟨q, ?_⟩
    obtain ⟨c, _, hc⟩ := cf_new fd.scope.names (s.heap.objs.size + 1) [] x.1 (mem_of_lookup q)
    rw [hc]; rfl
  · have Kx : Kp s s1 := x1.toInCall.done
    refine ⟨B.nolim.keeps (O.kp Kx).base, codeAny_func ?_⟩
    have esc : env.scope = fd.scope := by rw [he]; rfl
    have ekind : ∀ x, env.kindOf x = fn.sc.lookup x := fun x => by unfold Env.kindOf; rw [esc, F.names]
    have eglob : env.globals = fd.globals := by rw [he]; rfl
    have eblt : env.builtins = fd.builtins := by rw [he]; rfl
    have ecells : env.cells = cellsFrom (s.heap.objs.size + 1) fd.scope.names [] := by rw [he]; rfl
    generalize hκ : (env.locals :: fn.sc.filterMap (fun p => env.cells.lookup p.1) : List Addr) = κ
    have hκm : ∀ a : Nat, a ∈ κ → a = env.locals ∨ ∃ y, env.cells.lookup y = some a := fun a ha => by
      rw [← hκ] at ha
      rcases List.mem_cons.mp ha with q | q
      · exact .inl q
      · obtain ⟨p, _, hp⟩ := List.mem_filterMap.mp q
        exact .inr ⟨p.1, hp⟩
    have hloc : env.locals ∈ κ := by rw [← hκ]; exact List.mem_cons_self
    have hcl : ∀ y c, env.cells.lookup y = some c → c ∈ κ := fun y c hc => by
      rw [← hκ]
      have hm := mem_of_lookup hc
      rw [ecells] at hm
      rcases cf_mem _ _ _ _ _ hm with q | ⟨_, q⟩
      · cases q
      · exact List.mem_cons_of_mem _ (List.mem_filterMap.mpr ⟨(y, .cell), F.names ▸ q, hc⟩)
    have hfresh : ∀ a, a ∈ κ → s.heap.get? a = none := fun a ha => by
      have hf := x1.toInCall.fresh
      rcases hκm a ha with q | ⟨y, q⟩
      · exact get_ge (q ▸ hf)
      · exact get_ge (Nat.le_of_lt (Nat.lt_of_le_of_lt hf (x1.above y a (mem_of_lookup q))))
    have cellEx : ∀ y, fn.sc.lookup y = some .cell → ∃ c, env.cells.lookup y = some c := fun y hy => by
      rw [← F.names] at hy
      obtain ⟨c, _, hc⟩ := cf_new fd.scope.names (s.heap.objs.size + 1) [] y (mem_of_lookup hy)
      exact ⟨c, ecells ▸ hc⟩
    let φ1 : Ap := ⟨φ.ix, κ ++ φ.pr⟩
    have hs1 : ∀ a ∈ φ1.pr, a ∈ φ.pr ∨ s.heap.get? a = none := fun a ha => by
      rcases List.mem_append.mp ha with q | q
      · exact .inr (hfresh a q)
      · exact .inl q
    have cellGet : ∀ y c, env.cells.lookup y = some c → ∃ o, s1.heap.get? c = some o := fun y c hc => by
      obtain ⟨o', eo, _⟩ := x1.cell y c hc
      exact ⟨o', eo⟩
    have O1 : StoOk hb φ1 σ s1.heap := O.grow Kx rfl hs1 fun a ha => by
      rcases List.mem_append.mp ha with q | q
      · rcases hκm a q with q | ⟨y, q⟩
        · subst q
          obtain ⟨o', _, _, eo, _⟩ := x1.toInCall.ns
          exact ⟨o', eo⟩
        · exact cellGet y a q
      · exact (O.kp Kx).low a (List.mem_append_right _ q)
    have HH : ∀ x u, (x, u) ∈ fn.params.zip full → Held env s1.heap x u := fun x u hm' => by
      obtain ⟨hp1, hp2⟩ := F.par x (hparam x u hm')
      have hnd : ((fn.params.zip full).map (·.1)).Nodup := by rw [hnm]; exact F.nd
      rcases hp1 with q | q
      · exact .inl ⟨(ekind x).trans q, _, x1.toInCall.ns, bindL_get _ _ _ _ _ hnd hm' ((ekind x).trans q)⟩
      · obtain ⟨c, hc⟩ := cellEx x q
        refine .inr ⟨.inl ((ekind x).trans q), hp2, c, hc, ?_⟩
        have := x1.cell x c hc
        rw [bindC_get _ _ _ _ _ hnd hm' (by rw [ekind x, q]; decide)] at this
        exact this
    have V1 : EnvOk env fn.sc φ1 ρ s1.heap := by
      refine ⟨by rw [esc]; exact F.kind, eglob.trans F.glob, eblt.trans F.blt, fun x k hx => .inl ((ekind x).trans hx), fun x v' hx hd' => ?_⟩
      obtain ⟨u, hm', hr⟩ := hzip x v' hx
      have hrep : RepV φ1 s1.heap u v' := (RepV.more (φ := φ) (ψ := φ1) rfl (fun y my => by
        rcases List.mem_append.mp my with q | q
        · exact .inl (List.mem_append_left _ q)
        · exact (hs1 y q).imp (fun q => List.mem_append_right _ q) id) hr).keep (Kx.kb _)
      exact ⟨u, HH x u hm', hrep⟩
    have F1 : FrOk env fn.sc κ s1.heap := by
      refine ⟨⟨_, x1.toInCall.ns⟩, hloc, fun y hy => ?_⟩
      obtain ⟨c, hc⟩ := cellEx y hy
      exact ⟨c, hc, hcl y c hc, ⟨_, x1.cell y c hc⟩, fun y' hy' => name_of_addr x1.apart (mem_of_lookup hy') (mem_of_lookup hc)⟩
    have X1 : At hb env fn.sc φ1 κ ρ σ s1 := ⟨O1, V1, F1, ⟨fun a ha => List.mem_append_left _ ha, hloc, fun x c hc => hcl x c hc⟩⟩
    exact h env κ s1 _ Kx (AOk.deeper hA) hfresh X1 HH
end
-- S48
theorem init_text : ∃ q0 v0 p0 t1 b1 p1 a b c p2 st3, (mthAt 0).bd = [.Assign [.Name "headers" q0] v0 p0, .If t1 b1 [] p1, .Assign [.Attribute (.Name "self" a) "_headers" b] (.Name "headers" c) p2, st3] ∧
    (∀ σ i, (ev ctx1 24).e (mthAt 0).sc [("self", .any), ("headers", .own i)] σ v0 = some (.own i)) ∧ (∀ σ i, (ev ctx1 24).t (mthAt 0).sc [("self", .any), ("headers", .own i)] σ t1 = some false) ∧
    (∀ l env, swapsWith v0 (some (.Name "headers" q0)) l env = pure false) := ⟨_, _, _, _, _, _, _, _, _, _, _, rfl, fun _ _ => rfl, fun _ _ => rfl, fun _ _ => rfl⟩
theorem AOk.make {A : Around} {m : Nat} {C : Addr} {rest : List Value} {kw : List (Str × Value)} (x : AOk A (m + 1)) : AOk (A.under (.builtin "type.__call__" ⟨.ref C :: rest, kw⟩)) m :=
  ⟨x.1, by have := x.2.1; show A.depth + 1 + m < 1000; omega, by
    have := x.2.2
    have e : (A.under (.builtin "type.__call__" ⟨.ref C :: rest, kw⟩)).units = A.units + 1 := by first | rfl | simp [Around.under, Code.cUnits, Code.frames, Code.isFrame]
    rw [e]; omega⟩
noncomputable def Sh (s s' : Shared) : Prop := ∃ h t, s' = { s with heap := h, toks := t }
theorem Sh.trans {a b c : Shared} (x : Sh a b) (y : Sh b c) : Sh a c := by
  obtain ⟨h, t, rfl⟩ := x
  obtain ⟨h', t', rfl⟩ := y
  exact ⟨h', t', rfl⟩
theorem Kp.sh {a b : Shared} (x : Kp a b) : Sh a b := by obtain ⟨h, t, e, _⟩ := x; exact ⟨h, t, e⟩
theorem Pk.sh {κ : List Addr} {a b : Shared} (x : Pk κ a b) : Sh a b := by obtain ⟨h, t, e, _⟩ := x; exact ⟨h, t, e⟩
theorem Held.keepκ {env : Env} {φ : Ap} {κ : List Addr} {h h' : Heap} {x : Str} {u : Value} (hF : FnFr env φ κ) (kκ : ∀ a o, a ∈ κ → h.get? a = some o → h'.get? a = some o) (a : Held env h x u) : Held env h' x u := by
  rcases a with ⟨a, m, q, r⟩ | ⟨a, q, c, l, ⟨o, eo, eo'⟩⟩
  · exact .inl ⟨a, m, q.at' fun o e => kκ _ o hF.loc e, r⟩
  · exact .inr ⟨a, q, c, l, ⟨o, kκ c o (hF.cl _ c l) eo, eo'⟩⟩
section
variable {prog : Program} {w : World} {hb : Heap} {mg mb : Str → Option Value} {m : Nat} {P : Params}
theorem next_is {y : Fl × Rho × Sto} (h : isNext y = true) : y.1 = .next := by
  obtain ⟨f, z⟩ := y
  cases f with
  | next => rfl
  | _ => exact nf h
theorem init_ok (B : Base hb mg mb) (PR : Prims prog w hb) (CO : CtxOk prog w hb mg ctx1 m) (hm : 10 ≤ m) (H : HdrOk P hb) {fd : FuncData} (F : FnIs hb 153 (mthAt 0) fd) (bind : ∀ us (s : Shared), (∀ b o, hb.get? b = some o → s.heap.get? b = some o) → us.length = (mthAt 0).params.length → BindsTo s fd ⟨us, []⟩ ((mthAt 0).params.zip us)) :
    CallP prog w hb (m + 2) (.ref 261) headersV := p_one fun {A φ σ u x0 r s Q E} hA O a e h => bk e fun i ei e => gk e fun hrun e' => by
          have h := hv h e'
          cases rOwn a ei with
          | mk b' q =>
          obtain ⟨hp, g, d, t, os⟩ := s
          have H0 := H.keeps O.base
          refine wpAny_call (make_core (makes_of H0.frag (in_makes P)) (looks_findIn H0.frag (in_init P)) (fun self => (H0.fn 153 (by decide)).bind self) (.inl rfl) ?_)
          generalize hs2 : ({ heap := (hp.push emptyDict).push (instObj 261 hp.objs.size), gens := g, drawn := d, toks := t, os := os } : Shared) = s2
          have K2 : Kp { heap := hp, gens := g, drawn := d, toks := t, os := os } s2 := by
            subst hs2
            exact (Kp.push' { heap := hp, gens := g, drawn := d, toks := t, os := os } emptyDict).trans (Kp.push' _ _)
          have hx2 : s2.heap.get? (hp.objs.size + 1) = some (instObj 261 hp.objs.size) := by subst hs2; heap_get
          have hd2 : s2.heap.get? hp.objs.size = some emptyDict := by subst hs2; heap_get
          have hx0 : hp.get? (hp.objs.size + 1) = none := get_ge (Nat.le_succ _)
          have hd0 : hp.get? hp.objs.size = none := get_ge (Nat.le_refl _)
          have hxd : hp.objs.size + 1 ≠ hp.objs.size := Nat.succ_ne_self _
          generalize hp.objs.size + 1 = x at hx2 hx0 hxd
          generalize hp.objs.size = dx at hx2 hd2 hd0 hxd
          clear hs2
          have ndx : dx ∉ φ.all := fun m' => by obtain ⟨o, eo⟩ := O.low dx m'; rw [hd0] at eo; cases eo
          have nx : x ∉ φ.all := fun m' => by obtain ⟨o, eo⟩ := O.low x m'; rw [hx0] at eo; cases eo
          have O2 : StoOk hb ⟨φ.ix, dx :: φ.pr⟩ σ s2.heap := O.grow K2 rfl (fun a m' => by
            rcases List.mem_cons.mp m' with q | q
            · exact .inr (q ▸ hd0)
            · exact .inl q) fun a m' => by
            rcases List.mem_cons.mp m' with q | q
            · exact ⟨_, q ▸ hd2⟩
            · exact (O.kp K2).low a (List.mem_append_right _ q)
          have hA1 : AOk (A.under (.builtin "type.__call__" ⟨[.ref 261, .ref b'], []⟩)) (m + 1) := AOk.make hA
          refine frame_fn B F hA1 O2 (bind [.ref x, .ref b'] s2 O2.base rfl) (vs := [.any, .own i]) (ρ := [("self", .any), ("headers", .own i)]) (.cons (.any _) (.cons (.own q) .nil)) rfl fun env κ s3 E3 K3 hAd hfr X3 HH => ?_
          obtain ⟨q0, v0, p0, t1, b1, p1, pa, pb, pc, p2, st3, hbd, ev0, et1, hsw⟩ := init_text
          have hself : Held env s3.heap "self" (.ref x) := HH _ _ (.head _)
          have RO := rec_ok B PR CO hm 23
          have dκ : dx ∉ κ := fun m' => by have := hfr dx m'; rw [hd2] at this; cases this
          have xκ : x ∉ κ := fun m' => by have := hfr x m'; rw [hx2] at this; cases this
          rw [hbd]
          -- headers = headers if headers is not None else []
          refine wpAny_execs_cons (wpAny_Assign_Name (RO.e _ _ σ v0 _ (ev0 σ i) _ _ env s3 _ _ hAd X3.O X3.V fun u s4 k4 r4 => ?_) (hsw _ _))
          have X4 := X3.kp k4
          refine store_okH X4.O X4.V X4.frS.pr X4.F (x := "headers") (by decide +kernel) r4 fun s5 pk5 O5 V5 F5 hh5 => ?_
          have X5 : At hb env (mthAt 0).sc ⟨φ.ix, κ ++ dx :: φ.pr⟩ κ [("self", .any), ("headers", .own i)] σ s5 := ⟨O5, V5, F5, X4.frS⟩
          have hself5 := hh5 "self" _ (by decide +kernel) (hself.keep k4.all)
          -- if type(headers) is not list
          refine wpAny_execs_cons (wpAny_If (RO.t _ _ σ t1 _ (et1 σ i) _ _ env s5 _ _ hAd X5.O X5.V fun s6 k6 => ?_))
          rw [if_neg (by simp)]
          refine wpAny_execs_nil ?_
          have X6 := X5.kp k6
          have hself6 := hself5.keep k6.all
          -- self._headers = headers
          refine wpAny_execs_cons (plainObj_wpAny_Assign_Attribute (RO.e _ _ σ (.Name "headers" pc) (.own i) rfl _ _ env s6 _ _ hAd X6.O X6.V fun u7 s7 k7 r7 => ?_))
          have X7 := X6.kp k7
          have hself7 := hself6.keep k7.all
          refine held_load X7.V (by decide +kernel) hself7 ?_
          have keep7 : ∀ b o, b ∉ κ → s2.heap.get? b = some o → s7.heap.get? b = some o := fun b o hb e => k7.all b o (k6.all b o (pk5.kb b o hb (k4.all b o (K3.all b o e))))
          have hx7 := keep7 x _ xκ hx2
          have hd7 := keep7 dx _ dκ hd2
          have hu7 : u7 = .ref b' := by
            cases repV_own r7 with
            | mk a7 q7 => rw [Option.some.inj (q7.symm.trans q)]
          subst hu7
          refine f_setattr (H.keeps X7.O.base).frag hx7 hd7 fun h8 tk8 hs8 t8 n8 k8 hd8 => ?_
          have hF : FnFr env ⟨φ.ix, κ ++ φ.pr⟩ κ := ⟨fun a m' => List.mem_append_left _ m', X7.frS.loc, X7.frS.cl⟩
          have dpr : dx ∉ κ ++ φ.pr := fun m' => (List.mem_append.mp m').elim dκ fun m' => ndx (List.mem_append_right _ m')
          have X7' : At hb env (mthAt 0).sc ⟨φ.ix, dx :: (κ ++ φ.pr)⟩ κ [("self", .any), ("headers", .own i)] σ s7 := X7.fewer rfl (fun a m' => by
            rcases List.mem_cons.mp m' with q | q
            · exact List.mem_append_right _ (q ▸ List.mem_cons_self)
            · rcases List.mem_append.mp q with q | q
              · exact List.mem_append_left _ q
              · exact List.mem_append_right _ (List.mem_cons_of_mem _ q)) ⟨fun a m' => List.mem_cons_of_mem _ (List.mem_append_left _ m'), X7.frS.loc, X7.frS.cl⟩
          have X8 : At hb env (mthAt 0).sc ⟨φ.ix, κ ++ φ.pr⟩ κ [("self", .any), ("headers", .own i)] σ { s7 with heap := h8, toks := tk8 } := drop_at (φ := ⟨φ.ix, κ ++ φ.pr⟩) X7' hF dκ dpr k8
          have hx8 : h8.get? x = some (instObj 261 dx) := k8 x _ hxd hx7
          have hself8 : Held env h8 "self" (.ref x) := Held.keepκ hF (fun a o m' e => k8 a o (fun z => dκ (z ▸ m')) e) hself7
          have notall : ∀ y, y ∉ φ.all → y ∉ κ → y ∉ (⟨φ.ix, κ ++ φ.pr⟩ : Ap).all := fun y h1 h2 m' => by
            rcases List.mem_append.mp m' with q | q
            · exact h1 (List.mem_append_left _ q)
            · rcases List.mem_append.mp q with q | q
              · exact h2 q
              · exact h1 (List.mem_append_right _ q)
          have hdr8 : Hd (⟨φ.ix, κ ++ φ.pr⟩ : Ap).all h8 x b' := ⟨dx, n8, hs8, t8, hx8, hd8, notall x nx xκ, notall dx ndx dκ⟩
          have X9 : At hb env (mthAt 0).sc ⟨φ.ix, κ ++ φ.pr⟩ κ [("self", .hdr i), ("headers", .own i)] σ { s7 with heap := h8, toks := tk8 } := by
            refine ⟨X8.O, ⟨X8.V.kind, X8.V.glob, X8.V.blt, X8.V.sc, fun y v hy hd' => ?_⟩, X8.F, X8.frS⟩
            rw [List.lookup_cons] at hy
            cases hys : y == ("self" : Str) with
            | true =>
              rw [hys] at hy
              cases hy
              rw [eq_of_beq hys]
              exact ⟨.ref x, hself8, .hdr q hdr8⟩
            | false =>
              rw [hys] at hy
              refine X8.V.vars y v ?_ hd'
              rw [List.lookup_cons, hys]
              exact hy
          refine any_k hrun fun y e9 hn9 => ?_
          · rw [hbd] at e9
            refine body_run (ex_ok B PR CO hm 23 [] σ.length σ.length fuelS) hAd (show body _ _ _ _ = some (y.1, y.2.1, y.2.2) from e9) X9 (Nat.le_refl _) fun f φ' s9 st9 Y hf => ?_
            obtain rfl : f = .next := fl_at (next_is hn9) hf
            have keep9 : ∀ b o, b ∉ κ → b ≠ dx → s2.heap.get? b = some o → s9.heap.get? b = some o := fun b o h1 h2 e => st9.keep b o h1 (by
              rw [← O.len]; show b ∉ φ.ix.drop φ.ix.length
              rw [List.drop_length]; exact List.not_mem_nil) (k8 b o h2 (keep7 b o h1 e))
            have sh : Sh { heap := hp, gens := g, drawn := d, toks := t, os := os } s9 := K2.sh.trans (K3.sh.trans (k4.sh.trans (pk5.sh.trans (k6.sh.trans (k7.sh.trans (Sh.trans ⟨h8, tk8, rfl⟩ st9.sh))))))
            have hd9 : s9.heap.get? dx = some (dictOf [⟨hs8, .str (Str.ofString "_headers") t8, .ref b'⟩] n8) := st9.keep dx _ dκ (by
              rw [← O.len]; show dx ∉ φ.ix.drop φ.ix.length
              rw [List.drop_length]; exact List.not_mem_nil) hd8
            refine ⟨rfl, h _ s9 ?_ (.hdr q ⟨dx, n8, hs8, t8, keep9 x _ xκ hxd hx2, hd9, nx, ndx⟩)⟩
            obtain ⟨h9, t9, rfl⟩ := sh
            refine ⟨h9, t9, rfl, fun b o e => keep9 b o (fun m' => ?_) (fun z => ?_) (K2.all b o e)⟩
            · have := hfr b m'
              rw [K2.all b o e] at this; cases this
            · rw [z] at e; exact absurd e (by simp [hd0])
end
-- S49
structure Head (P : Params) (h : Heap) : Prop where
  objs : ∀ p ∈ objsE P, h.get? p.1 = some p.2
  codes : ∀ p ∈ codesE, codeNm h p.1 = some p.2
  glob : ∃ o, h.get? 3 = some o ∧ ∀ p ∈ globE, lookD o p.1 = p.2
theorem Head.keeps {P : Params} {h h' : Heap} (x : Head P h) (k : ∀ b o, h.get? b = some o → h'.get? b = some o) : Head P h' := by
  refine ⟨fun p m => k _ _ (x.objs p m), fun p m => ?_, let ⟨o, e, r⟩ := x.glob; ⟨o, k _ _ e, r⟩⟩
  obtain ⟨o, e, r⟩ := Option.bind_eq_some_iff.mp (x.codes p m)
  exact Option.bind_eq_some_iff.mpr ⟨o, k _ _ e, r⟩
noncomputable def parOk (sc : Sc) (ps : List Str) : Bool := ps.all (fun x => (sc.lookup x == some .local || sc.lookup x == some .cell) && !(x == ("__classdict__" : Str))) && decide ps.Nodup
noncomputable def FnRow.ok (r : FnRow) : Bool := match r.st with
  | .FunctionDef _ a _ _ _ _ sc _ _ _ => sc.kind == .function && !sc.isCoroutine && !sc.isGenerator && parOk sc.names ((a.args ++ a.kwonlyargs).map (·.arg))
  | _ => false
theorem fnTab_ok : fnTab.all FnRow.ok = true := by decide +kernel
section
variable {P : Params} {hb : Heap} {mg : Str → Option Value}
theorem Head.fn (H : Head P hb) {r : FnRow} (hr : r ∈ fnTab) (mu : List Str) : FnIs hb r.a (fnOfS mu r.st) r.fd := by
  have ho := H.objs (r.a, r.obj) (List.mem_append_left _ (List.mem_map.mpr ⟨r, hr, rfl⟩))
  have hc := H.codes (r.a - 1, r.q) (List.mem_map.mpr ⟨r, hr, rfl⟩)
  have hk := List.all_eq_true.mp fnTab_ok r hr
  obtain ⟨a, st, q, d, md⟩ := r
  unfold FnRow.ok at hk
  dsimp only at hk
  split at hk
  · rename_i n ar bd _ _ _ sc _ _ _
    simp only [Bool.and_eq_true, Bool.not_eq_true', parOk, List.all_eq_true, Bool.or_eq_true, beq_iff_eq, decide_eq_true_eq] at hk
    obtain ⟨⟨⟨k1, k2⟩, k3⟩, k4, k5⟩ := hk
    obtain ⟨o, eo, er⟩ := Option.bind_eq_some_iff.mp hc
    refine ⟨⟨_, ho, rfl⟩, rfl, rfl, k1, k2, k3, rfl, rfl, rfl, ?_, k4, k5⟩
    split at er
    · rename_i vs hvs
      cases hq : (vs[1]? : Option Value) with
      | none => rw [hq] at er; cases er
      | some v =>
        rw [hq] at er
        cases v with
        | str q' t => cases er; exact ⟨a - 1, o, vs, t, rfl, eo, hvs, hq⟩
        | _ => cases er
    · cases er
  · cases hk
theorem Head.fnOb (H : Head P hb) {r : FnRow} (hr : r ∈ fnTab) : FnOb hb r.a :=
  ⟨_, _, H.objs (r.a, r.obj) (List.mem_append_left _ (List.mem_map.mpr ⟨r, hr, rfl⟩)), rfl, rfl⟩
theorem Head.row (H : Head P hb) {a : Addr} {o : Obj} (k : Nat) (e : (objsE P)[k]? = some (a, o)) : hb.get? a = some o := H.objs (a, o) (List.mem_of_getElem? e)
theorem Head.mgl (H : Head P hb) (hg : hb.Ns mainGlobals mg) {x : Str} {v : Option Value} (m : (x, v) ∈ globE) : mg x = v := by
  obtain ⟨o, e, r⟩ := H.glob
  have r1 : lookD o x = v := r (x, v) m
  rw [hg.eq_nsMap, ← r1]
  unfold Heap.nsMap lookD
  rw [show hb.get? mainGlobals = some o from e]
  rfl
theorem Head.hdr (H : Head P hb) : HdrOk P hb := by
  refine ⟨fun a o e => ?_, fun f m => ?_⟩
  · unfold Kc at e
    rw [List.lookup_cons] at e
    split at e
    · rename_i q
      cases e
      rw [eq_of_beq q]
      exact H.row 42 rfl
    · rw [List.lookup_cons] at e
      split at e
      · rename_i q
        cases e
        rw [eq_of_beq q]
        exact H.row 43 rfl
      · cases e
  · simp only [List.mem_cons, List.not_mem_nil, or_false] at m
    rcases m with rfl | rfl | rfl | rfl | rfl | rfl | rfl | rfl | rfl | rfl | rfl | rfl
    · exact H.fnOb (List.mem_of_getElem? (show fnTab[30]? = some ⟨153, _, _, _, _⟩ from rfl))
    · exact H.fnOb (List.mem_of_getElem? (show fnTab[31]? = some ⟨160, _, _, _, _⟩ from rfl))
    · exact H.fnOb (List.mem_of_getElem? (show fnTab[32]? = some ⟨167, _, _, _, _⟩ from rfl))
    · exact H.fnOb (List.mem_of_getElem? (show fnTab[33]? = some ⟨174, _, _, _, _⟩ from rfl))
    · exact H.fnOb (List.mem_of_getElem? (show fnTab[34]? = some ⟨179, _, _, _, _⟩ from rfl))
    · exact H.fnOb (List.mem_of_getElem? (show fnTab[35]? = some ⟨186, _, _, _, _⟩ from rfl))
    · exact H.fnOb (List.mem_of_getElem? (show fnTab[36]? = some ⟨193, _, _, _, _⟩ from rfl))
    · exact H.fnOb (List.mem_of_getElem? (show fnTab[37]? = some ⟨208, _, _, _, _⟩ from rfl))
    · exact H.fnOb (List.mem_of_getElem? (show fnTab[38]? = some ⟨213, _, _, _, _⟩ from rfl))
    · exact H.fnOb (List.mem_of_getElem? (show fnTab[39]? = some ⟨225, _, _, _, _⟩ from rfl))
    · exact H.fnOb (List.mem_of_getElem? (show fnTab[40]? = some ⟨237, _, _, _, _⟩ from rfl))
    · exact H.fnOb (List.mem_of_getElem? (show fnTab[41]? = some ⟨244, _, _, _, _⟩ from rfl))
theorem Head.pats {prog : Program} {w : World} (H : Head w.params hb) : Pats prog w hb where
  flags := ⟨_, _, _, 42, _, _, H.row 44 rfl, codeO flagsCode, _, List.replicate flagsCode.length 0, H.row 47 rfl, rfl, rfl⟩
  name := ⟨.none, ⟨_, _, _, 132, _, _, H.row 45 rfl, codeO nameCode, _, List.replicate nameCode.length 0, H.row 48 rfl, rfl, rfl⟩⟩
  value := ⟨.none, ⟨_, _, _, 137, _, _, H.row 46 rfl, codeO valueCode, _, List.replicate valueCode.length 0, H.row 49 rfl, rfl, rfl⟩⟩
  grp := ⟨335, ⟨_, _, _, H.row 50 rfl, ⟨rfl, rfl, rfl⟩, rfl, fun e m => ⟨Str.ofString "flags", by
    simp only [List.mem_toArray, List.mem_singleton] at m
    subst m
    exact ⟨by kernel_rfl, rfl⟩⟩, fun k => by
    have hf : Str.ofString "flags" = (⟨flagsName.toArray⟩ : Str) := by decide +kernel
    unfold findBy
    rw [← Array.find?_toList]
    show ((List.find? (fun e : DictEntry => Value.isStrOf k e.key) [⟨PyData.keyHash w.params (Str.ofString "flags"), .str (Str.ofString "flags") 334, .int 1 335⟩]).map (·.val)) = _
    rw [List.find?_cons]
    dsimp only [Value.isStrOf]
    rw [hf]
    by_cases hk : k = (⟨flagsName.toArray⟩ : Str)
    · rw [if_pos hk, hk, beq_self_eq_true]; rfl
    · rw [if_neg hk, beq_eq_false_iff_ne.mpr (Ne.symm hk)]; rfl⟩⟩
end
-- S50
noncomputable def BP (fd : FuncData) (ps : List Str) : Prop := ∀ us s, us.length = ps.length → BindsTo s fd ⟨us, []⟩ (ps.zip us)
theorem len_0 {α : Type} {us : List α} (h : us.length = 0) : us = [] := List.length_eq_zero_iff.mp h
theorem len_s {α : Type} {us : List α} {n : Nat} (h : us.length = n + 1) : ∃ a r, us = a :: r ∧ r.length = n := by
  cases us with
  | nil => exact nomatch h
  | cons a r => exact ⟨a, r, rfl, Nat.succ.inj h⟩
theorem bp1 {fd : FuncData} {ps : List Str} (hp : ps.length = 1) (h : ∀ a, bindArgs fd ⟨[a], []⟩ = pure (ps.zip [a])) : BP fd ps := fun us s hl => by
  obtain ⟨a, r, rfl, h1⟩ := len_s (hl.trans hp)
  obtain rfl := len_0 h1
  exact .of_eq (h a)
theorem bp2 {fd : FuncData} {ps : List Str} (hp : ps.length = 2) (h : ∀ a b, bindArgs fd ⟨[a, b], []⟩ = pure (ps.zip [a, b])) : BP fd ps := fun us s hl => by
  obtain ⟨a, r, rfl, h1⟩ := len_s (hl.trans hp)
  obtain ⟨b, r, rfl, h2⟩ := len_s h1
  obtain rfl := len_0 h2
  exact .of_eq (h a b)
theorem bp3 {fd : FuncData} {ps : List Str} (hp : ps.length = 3) (h : ∀ a b c, bindArgs fd ⟨[a, b, c], []⟩ = pure (ps.zip [a, b, c])) : BP fd ps := fun us s hl => by
  obtain ⟨a, r, rfl, h1⟩ := len_s (hl.trans hp)
  obtain ⟨b, r, rfl, h2⟩ := len_s h1
  obtain ⟨c, r, rfl, h3⟩ := len_s h2
  obtain rfl := len_0 h3
  exact .of_eq (h a b c)
theorem bp4 {fd : FuncData} {ps : List Str} (hp : ps.length = 4) (h : ∀ a b c d, bindArgs fd ⟨[a, b, c, d], []⟩ = pure (ps.zip [a, b, c, d])) : BP fd ps := fun us s hl => by
  obtain ⟨a, r, rfl, h1⟩ := len_s (hl.trans hp)
  obtain ⟨b, r, rfl, h2⟩ := len_s h1
  obtain ⟨c, r, rfl, h3⟩ := len_s h2
  obtain ⟨d, r, rfl, h4⟩ := len_s h3
  obtain rfl := len_0 h4
  exact .of_eq (h a b c d)
noncomputable def rowF (k : Nat) : FnRow := fnTab.getD k ⟨0, .Pass ⟨0, 0, 0, 0⟩, "", .none, .none⟩
theorem row_mem {k : Nat} (h : k < fnTab.length) : rowF k ∈ fnTab := by
  unfold rowF
  rw [List.getD_eq_getElem?_getD, List.getElem?_eq_getElem h]
  exact List.getElem_mem h
noncomputable def psF (k : Nat) : List Str := (fnOfS [] (rowF k).st).params
theorem bp_0 : BP (rowF 0).fd (psF 0) := bp1 rfl fun _ => by kernel_rfl
theorem bp_1 : BP (rowF 1).fd (psF 1) := bp1 rfl fun _ => by kernel_rfl
theorem bp_2 : BP (rowF 2).fd (psF 2) := bp1 rfl fun _ => by kernel_rfl
theorem bp_3 : BP (rowF 3).fd (psF 3) := bp1 rfl fun _ => by kernel_rfl
theorem bp_4 : BP (rowF 4).fd (psF 4) := bp2 rfl fun _ _ => by kernel_rfl
theorem bp_5 : BP (rowF 5).fd (psF 5) := bp2 rfl fun _ _ => by kernel_rfl
theorem bp_6 : BP (rowF 6).fd (psF 6) := bp2 rfl fun _ _ => by kernel_rfl
theorem bp_7 : BP (rowF 7).fd (psF 7) := bp3 rfl fun _ _ _ => by kernel_rfl
theorem bp_9 : BP (rowF 9).fd (psF 9) := bp2 rfl fun _ _ => by kernel_rfl
theorem bp_10 : BP (rowF 10).fd (psF 10) := bp2 rfl fun _ _ => by kernel_rfl
theorem bp_11 : BP (rowF 11).fd (psF 11) := bp2 rfl fun _ _ => by kernel_rfl
theorem bp_12 : BP (rowF 12).fd (psF 12) := bp2 rfl fun _ _ => by kernel_rfl
theorem bp_13 : BP (rowF 13).fd (psF 13) := bp2 rfl fun _ _ => by kernel_rfl
theorem bp_14 : BP (rowF 14).fd (psF 14) := bp1 rfl fun _ => by kernel_rfl
theorem bp_15 : BP (rowF 15).fd (psF 15) := bp1 rfl fun _ => by kernel_rfl
theorem bp_16 : BP (rowF 16).fd (psF 16) := bp1 rfl fun _ => by kernel_rfl
theorem bp_17 : BP (rowF 17).fd (psF 17) := bp1 rfl fun _ => by kernel_rfl
theorem bp_18 : BP (rowF 18).fd (psF 18) := bp1 rfl fun _ => by kernel_rfl
theorem bp_19 : BP (rowF 19).fd (psF 19) := bp1 rfl fun _ => by kernel_rfl
theorem bp_20 : BP (rowF 20).fd (psF 20) := bp2 rfl fun _ _ => by kernel_rfl
theorem bp_21 : BP (rowF 21).fd (psF 21) := bp1 rfl fun _ => by kernel_rfl
theorem bp_22 : BP (rowF 22).fd (psF 22) := bp3 rfl fun _ _ _ => by kernel_rfl
theorem bp_23 : BP (rowF 23).fd (psF 23) := bp3 rfl fun _ _ _ => by kernel_rfl
theorem bp_24 : BP (rowF 24).fd (psF 24) := bp3 rfl fun _ _ _ => by kernel_rfl
theorem bp_25 : BP (rowF 25).fd (psF 25) := bp4 rfl fun _ _ _ _ => by kernel_rfl
theorem bp_26 : BP (rowF 26).fd (psF 26) := bp3 rfl fun _ _ _ => by kernel_rfl
theorem bp_27 : BP (rowF 27).fd (psF 27) := bp4 rfl fun _ _ _ _ => by kernel_rfl
theorem bp_28 : BP (rowF 28).fd (psF 28) := bp3 rfl fun _ _ _ => by kernel_rfl
theorem bp_29 : BP (rowF 29).fd (psF 29) := bp1 rfl fun _ => by kernel_rfl
theorem bp_32 : BP (rowF 32).fd (psF 32) := bp1 rfl fun _ => by kernel_rfl
theorem bp_33 : BP (rowF 33).fd (psF 33) := bp3 rfl fun _ _ _ => by kernel_rfl
theorem bp_34 : BP (rowF 34).fd (psF 34) := bp2 rfl fun _ _ => by kernel_rfl
theorem bp_35 : BP (rowF 35).fd (psF 35) := bp2 rfl fun _ _ => by kernel_rfl
theorem bp_36 : BP (rowF 36).fd (psF 36) := bp2 rfl fun _ _ => by kernel_rfl
theorem bp_38 : BP (rowF 38).fd (psF 38) := bp1 rfl fun _ => by kernel_rfl
theorem bp_39 : BP (rowF 39).fd (psF 39) := bp1 rfl fun _ => by kernel_rfl
theorem bp_40 : BP (rowF 40).fd (psF 40) := bp1 rfl fun _ => by kernel_rfl
theorem bp_41 : BP (rowF 41).fd (psF 41) := bp1 rfl fun _ => by kernel_rfl
-- S51
section
variable (prog : Program) (w : World) (hb : Heap) (mg : Str → Option Value)
noncomputable def LOk (m : Nat) (l : List (Str × Pr)) : Prop := ∀ f g, (f, g) ∈ l → ∃ fv, GlobIs mg f fv ∧ Keeper1 prog w hb fv ∧ CallP prog w hb m fv g
noncomputable def EOk (m : Nat) (l : List (Str × (Sto → List V → Option (V × Sto)))) : Prop := ∀ f g, (f, g) ∈ l → ∃ fv, GlobIs mg f fv ∧ Keeper1 prog w hb fv ∧ CallA prog w hb m fv g
noncomputable def MOk (m : Nat) (l : List (Str × Pr)) : Prop := ∀ n f, (n, f) ∈ l → ∃ fa, fa ∈ ([153, 160, 167, 174, 179, 186, 193, 208, 213, 225, 237, 244] : List Addr) ∧ findIn (Kc w.params) (.ref 261) n = some (some (.ref fa)) ∧ (Str.ofString "_headers" == n) = false ∧
  CallK prog w hb (n == ("_convert_string_type" : Str)) m (.ref fa) f
end
section
variable {prog : Program} {w : World} {hb : Heap} {mg mb : Str → Option Value} {m n : Nat}
theorem LOk.nil : LOk prog w hb mg m [] := fun _ _ h => by cases h
theorem LOk.app {l l' : List (Str × Pr)} (x : LOk prog w hb mg m l) (y : LOk prog w hb mg m l') : LOk prog w hb mg m (l ++ l') := fun f g h => (List.mem_append.mp h).elim (x f g) (y f g)
theorem LOk.cons {f : Str} {g : Pr} {l : List (Str × Pr)} (x : ∃ fv, GlobIs mg f fv ∧ Keeper1 prog w hb fv ∧ CallP prog w hb m fv g) (y : LOk prog w hb mg m l) : LOk prog w hb mg m ((f, g) :: l) := fun f' g' h => by
  rcases List.mem_cons.mp h with e | h
  · cases e; exact x
  · exact y f' g' h
theorem LOk.less {l : List (Str × Pr)} (x : LOk prog w hb mg m l) (h : m ≤ n) : LOk prog w hb mg n l := fun f g e => let ⟨fv, a, b, c⟩ := x f g e; ⟨fv, a, b, c.less h⟩
theorem EOk.nil : EOk prog w hb mg m [] := fun _ _ h => by cases h
theorem EOk.cons {f : Str} {g : Sto → List V → Option (V × Sto)} {l : List (Str × (Sto → List V → Option (V × Sto)))} (x : ∃ fv, GlobIs mg f fv ∧ Keeper1 prog w hb fv ∧ CallA prog w hb m fv g) (y : EOk prog w hb mg m l) : EOk prog w hb mg m ((f, g) :: l) := fun f' g' h => by
  rcases List.mem_cons.mp h with e | h
  · cases e; exact x
  · exact y f' g' h
theorem MOk.nil : MOk prog w hb m [] := fun _ _ h => by cases h
theorem MOk.cons {f : Str} {g : Pr} {l : List (Str × Pr)} (fa : Addr) (h1 : fa ∈ ([153, 160, 167, 174, 179, 186, 193, 208, 213, 225, 237, 244] : List Addr)) (h2 : findIn (Kc w.params) (.ref 261) f = some (some (.ref fa))) (h3 : (Str.ofString "_headers" == f) = false)
    (h4 : CallK prog w hb (f == ("_convert_string_type" : Str)) m (.ref fa) g) (y : MOk prog w hb m l) : MOk prog w hb m ((f, g) :: l) := fun f' g' h => by
  rcases List.mem_cons.mp h with e | h
  · cases e; exact ⟨fa, h1, h2, h3, h4⟩
  · exact y f' g' h
theorem MOk.less {l : List (Str × Pr)} (x : MOk prog w hb m l) (h : m ≤ n) : MOk prog w hb n l := fun f g e => let ⟨fa, a, b, c, d⟩ := x f g e; ⟨fa, a, b, c, d.less h⟩
theorem CallK.p {fv : Value} {g : Pr} (x : CallK prog w hb false m fv g) : CallP prog w hb m fv g := fun A φ σ us vs r s Q E hA O rv e h =>
  x A φ σ us vs [] [] r s Q E hA O rv .nil (.inl ⟨rfl, rfl⟩) (by rw [List.append_nil]; exact e) h
theorem keeper_b (id : String) : Keeper1 prog w hb (.builtin id) := ⟨.machine, fun _ _ _ _ _ hq => wpAny_pure hq⟩
theorem keeper_t (id : String) : Keeper1 prog w hb (.type id) := ⟨.machine, fun _ _ _ _ _ hq => wpAny_pure hq⟩
theorem glob_b (B : Base hb mg mb) (H : Head w.params hb) {x : Str} {v : Value} (h1 : (x, none) ∈ globE) (h2 : x ≠ "__name__") (h3 : bootBuiltins x = some v) : GlobIs mg x v := .inr ⟨H.mgl B.g h1, h2, h3⟩
theorem glob_f (B : Base hb mg mb) (H : Head w.params hb) {x : Str} {v : Value} (h1 : (x, some v) ∈ globE) : GlobIs mg x v := .inl (H.mgl B.g h1)
theorem in_glob (k : Nat) {x : Str} {v : Option Value} (e : globE[k]? = some (x, v)) : (x, v) ∈ globE := List.mem_of_getElem? e
theorem fnB_ok (B : Base hb mg mb) (H : Head w.params hb) {meth : Str → Option Pr} (hlen : ∀ f, meth "__len__" = some f → CallP prog w hb m (.ref 167) f) (hby : ∀ f, meth "__bytes__" = some f → CallP prog w hb m (.ref 244) f) (hst : ∀ f, meth "__str__" = some f → CallP prog w hb m (.ref 237) f) :
    LOk prog w hb mg (m + 2) (fnB meth) := by
  refine .cons ⟨.type "range", glob_b B H (in_glob 34 rfl) (by decide +kernel) (by kernel_rfl), keeper_t _, p_range⟩ ?_
  refine .cons ⟨.builtin "len", glob_b B H (in_glob 35 rfl) (by decide +kernel) (by kernel_rfl), keeper_b _, (p_len (m := m + 1) fun f ef A φ σ a i n s Q E hA O r e h0 h1 h => f_len H.hdr (hlen f ef) hA O r e h0 h1 h).less (Nat.le_succ _)⟩ ?_
  refine .cons ⟨.builtin "sum", glob_b B H (in_glob 36 rfl) (by decide +kernel) (by kernel_rfl), keeper_b _, p_sum⟩ ?_
  refine .cons ⟨.builtin "chr", glob_b B H (in_glob 37 rfl) (by decide +kernel) (by kernel_rfl), keeper_b _, p_chr⟩ ?_
  refine .cons ⟨.builtin "ord", glob_b B H (in_glob 38 rfl) (by decide +kernel) (by kernel_rfl), keeper_b _, p_ord⟩ ?_
  refine .cons ⟨.type "tuple", glob_b B H (in_glob 39 rfl) (by decide +kernel) (by kernel_rfl), keeper_t _, p_tuple⟩ ?_
  refine .cons ⟨.type "bytes", glob_b B H (in_glob 40 rfl) (by decide +kernel) (by kernel_rfl), keeper_t _, p_bytes fun f ef A φ σ a i b s Q E hA O r e h => f_bytes H.hdr (hby f ef) hA O r e h⟩ ?_
  refine .cons ⟨.type "str", glob_b B H (in_glob 41 rfl) (by decide +kernel) (by kernel_rfl), keeper_t _, p_str fun f ef A φ σ a i b s Q E hA O r e h => f_str H.hdr (hst f ef) hA O r e h⟩ ?_
  refine .cons ⟨.type "type", glob_b B H (in_glob 42 rfl) (by decide +kernel) (by kernel_rfl), keeper_t _, p_type⟩ ?_
  refine .cons ⟨.builtin "isinstance", glob_b B H (in_glob 43 rfl) (by decide +kernel) (by kernel_rfl), keeper_b _, p_isi⟩ ?_
  refine .cons ⟨.type "int", glob_b B H (in_glob 44 rfl) (by decide +kernel) (by kernel_rfl), keeper_t _, p_int⟩ ?_
  refine .cons ⟨.builtin "abs", glob_b B H (in_glob 45 rfl) (by decide +kernel) (by kernel_rfl), keeper_b _, p_abs⟩ ?_
  refine .cons ⟨.builtin "divmod", glob_b B H (in_glob 46 rfl) (by decide +kernel) (by kernel_rfl), keeper_b _, p_divmod⟩ .nil
theorem globB_ok (B : Base hb mg mb) (H : Head w.params hb) (x : Str) (v : V) (e : globB x = some v) : ∃ fv, GlobIs mg x fv ∧ ∀ φ h, RepV φ h fv v := by
  unfold globB at e
  split at e
  · rename_i q; cases e; rw [eq_of_beq q]; exact ⟨_, glob_b B H (in_glob 40 rfl) (by decide +kernel) (by kernel_rfl), fun _ _ => .typ _⟩
  split at e
  · rename_i q; cases e; rw [eq_of_beq q]; exact ⟨_, glob_b B H (in_glob 41 rfl) (by decide +kernel) (by kernel_rfl), fun _ _ => .typ _⟩
  split at e
  · rename_i q; cases e; rw [eq_of_beq q]; exact ⟨_, glob_b B H (in_glob 47 rfl) (by decide +kernel) (by kernel_rfl), fun _ _ => .typ _⟩
  split at e
  · rename_i q; cases e; rw [eq_of_beq q]; exact ⟨_, glob_b B H (in_glob 44 rfl) (by decide +kernel) (by kernel_rfl), fun _ _ => .typ _⟩
  split at e
  · rename_i q; cases e; rw [eq_of_beq q]; exact ⟨_, glob_f B H (in_glob 30 rfl), fun _ _ => .pat 0⟩
  split at e
  · rename_i q; cases e; rw [eq_of_beq q]; exact ⟨_, glob_f B H (in_glob 31 rfl), fun _ _ => .pat 1⟩
  split at e
  · rename_i q; cases e; rw [eq_of_beq q]; exact ⟨_, glob_f B H (in_glob 32 rfl), fun _ _ => .pat 2⟩
  · cases e
theorem ctx_ok (B : Base hb mg mb) (H : Head w.params hb) {C : Ctx} {fl ml : List (Str × Pr)} {el : List (Str × (Sto → List V → Option (V × Sto)))} (hfn : C.fn = look fl) (hef : C.eff = look el) (hml : C.meth = look ml) (hgl : C.glob = globB)
    (F : LOk prog w hb mg m fl) (E0 : EOk prog w hb mg m el) (M : MOk prog w hb m ml)
    (hs : (C.hset = fun _ _ _ _ => none) ∨ ∃ g, (C.hset = fun σ i d e => (g σ [.hdr i, .p d, .p e]).map (·.2)) ∧ CallA prog w hb m (.ref 174) g)
    (hd : (C.hdel = fun _ _ _ => none) ∨ ∃ g, (C.hdel = fun σ i d => (g σ [.hdr i, .p d]).map (·.2)) ∧ CallA prog w hb m (.ref 179) g) : CtxOk prog w hb mg C (m + 1) := by
  have lt : m ≤ m + 1 := Nat.le_succ m
  have mem : ∀ {n f}, C.meth n = some f → (n, f) ∈ ml := fun {n f} e => mem_of_lookup (by rw [hml] at e; exact e)
  have cal : ∀ {n f fa}, C.meth n = some f → findIn (Kc w.params) (.ref 261) n = some (some (.ref fa)) → (n == ("_convert_string_type" : Str)) = false → CallP prog w hb m (.ref fa) f := fun {n f fa} e hf hn => by
    obtain ⟨fa', _, h2, _, h4⟩ := M n f (mem e)
    rw [hf] at h2
    cases h2
    rw [hn] at h4
    exact h4.p
  refine ⟨fun f g e => ?_, fun f g e => ?_, fun x v e => ?_, fun f e => ?_, fun f e => ?_, fun f e => ?_, ?_, fun n f e => ?_, ?_, ?_⟩
  · obtain ⟨fv, a, b, c⟩ := F f g (mem_of_lookup (by rw [hfn] at e; exact e))
    exact ⟨fv, a, b, c.less lt⟩
  · obtain ⟨fv, a, b, c⟩ := E0 f g (mem_of_lookup (by rw [hef] at e; exact e))
    exact ⟨fv, a, b, c.less lt⟩
  · rw [hgl] at e; exact globB_ok B H x v e
  · intro A φ σ a i u d b s Q E hA O r ru ef h
    exact f_inH H.hdr (cal e (in_contains _) (by decide +kernel)) (hA.less lt) O r ru ef h
  · intro A φ σ a i u d b s Q E hA O r ru ef h
    exact f_notInH H.hdr (cal e (in_contains _) (by decide +kernel)) (hA.less lt) O r ru ef h
  · intro A φ σ a i u d r s value slice Q E hA O rr ru ef hs h
    exact f_getH H.hdr (cal e (in_getitem _) (by decide +kernel)) hA O rr ru ef hs h
  · intro A φ σ a i s value Q E hA O r h
    exact f_attr H.hdr O r h
  · obtain ⟨fa, h1, h2, h3, h4⟩ := M n f (mem e)
    refine ⟨.ref fa, ?_, h4.less lt, fun A φ σ a i s pl Q E hA O r h => f_meth H.hdr h1 h2 h3 O r h⟩
    obtain ⟨o, fd, e1, e2, e3⟩ := H.hdr.fn fa h1
    refine ⟨.frame, fun s A Q E hk hq => ?_⟩
    unfold keeperOf
    refine wpAny_bind (wpAny_load (hk fa o e1) ?_)
    rw [e3]
    exact wpAny_pure hq
  · intro A φ σ a i u d v e' σ' s Q E hA O r ru rv ef h
    rcases hs with q | ⟨g, q, cp⟩
    · rw [q] at ef; cases ef
    · rw [q] at ef; exact f_hset H.hdr cp (hA.less lt) O r ru rv ef h
  · intro A φ σ a i u d σ' s Q E hA O r ru ef h
    rcases hd with q | ⟨g, q, cp⟩
    · rw [q] at ef; cases ef
    · rw [q] at ef; exact f_hdel H.hdr cp (hA.less lt) O r ru ef h
end
-- S52
theorem ps_mu (mu : List Str) (st : Stmt) : (fnOfS mu st).params = (fnOfS [] st).params := by cases st <;> rfl
section
variable {prog : Program} {w : World} {hb : Heap} {mg mb : Str → Option Value} {m : Nat} {C : Ctx}
theorem callP_row (B : Base hb mg mb) (H : Head w.params hb) (CO : CtxOk prog w hb mg C m) (hm : 10 ≤ m) (k : Nat) (hk : k < fnTab.length) (mu : List Str) (bp : BP (rowF k).fd (psF k)) : CallP prog w hb (m + 1) (.ref (rowF k).a) (runP C (fnOfS mu (rowF k).st)) :=
  callP_fn B (prims_ok H.pats) CO hm (H.fn (row_mem hk) mu) (fun us s hl => by rw [ps_mu] at hl ⊢; exact bp us s hl)
theorem callA_row (B : Base hb mg mb) (H : Head w.params hb) (CO : CtxOk prog w hb mg C m) (hm : 10 ≤ m) (k : Nat) (hk : k < fnTab.length) (mu : List Str) (bp : BP (rowF k).fd (psF k)) : CallA prog w hb (m + 1) (.ref (rowF k).a) (runA C (fnOfS mu (rowF k).st)) :=
  callA_fn B (prims_ok H.pats) CO hm (H.fn (row_mem hk) mu) (fun us s hl => by rw [ps_mu] at hl ⊢; exact bp us s hl)
theorem tab_len : fnTab.length = 42 := rfl
theorem lt_tab {k : Nat} (h : k < 42) : k < fnTab.length := tab_len ▸ h
theorem ctx0_ok (B : Base hb mg mb) (H : Head w.params hb) : CtxOk prog w hb mg ctx0 13 :=
  ctx_ok (m := 12) (fl := fnB noM) (ml := []) (el := []) B H rfl (by funext x; rfl) rfl rfl (fnB_ok (m := 10) B H (fun _ e => by cases e) (fun _ e => by cases e) fun _ e => by cases e) .nil .nil (.inl rfl) (.inl rfl)
theorem cvt_bind (a b k : Value) : bindArgs (rowF 31).fd ⟨[a, b], [(("name" : Str), k)]⟩ = pure ((psF 31).zip [a, b, k]) := by kernel_rfl
theorem cvt_ok (B : Base hb mg mb) (H : Head w.params hb) : CallK prog w hb true 14 (.ref 160) mCvt := by
  intro A φ σ us vs kw ks r s Q E hA O rv rk hk e h
  rcases hk with ⟨_, q⟩ | ⟨_, k, rfl⟩
  · cases q
  · cases rk with
    | cons rk0 rk1 =>
      cases rk1
      refine callP_gen (m := 13) (fn := fnOfS [] (rowF 31).st) (fd := (rowF 31).fd) (f := 160) (full := us ++ [k]) B (prims_ok H.pats) (ctx0_ok B H) (by decide) (H.fn (row_mem (k := 31) (lt_tab (by decide))) []) hA O (fun hl => ?_) (rv.append (.cons rk0 .nil)) e h
      have hl : us.length + 1 = 3 := (List.length_append (as := us) (bs := [k])).symm.trans hl
      obtain ⟨a, r, rfl, h1⟩ := len_s (Nat.succ.inj hl)
      obtain ⟨b, r, rfl, h2⟩ := len_s h1
      obtain rfl := len_0 h2
      exact .of_eq (cvt_bind a b k)
theorem mlen_ok (B : Base hb mg mb) (H : Head w.params hb) : CallP prog w hb 14 (.ref 167) mLen := callP_row B H (ctx0_ok B H) (by decide) 32 (lt_tab (by decide)) [] bp_32
theorem mkeys_ok (B : Base hb mg mb) (H : Head w.params hb) : CallP prog w hb 14 (.ref 213) mKeys := callP_row B H (ctx0_ok B H) (by decide) 38 (lt_tab (by decide)) [] bp_38
theorem mitems_ok (B : Base hb mg mb) (H : Head w.params hb) : CallP prog w hb 14 (.ref 225) mItems := callP_row B H (ctx0_ok B H) (by decide) 39 (lt_tab (by decide)) [] bp_39
theorem mstr_ok (B : Base hb mg mb) (H : Head w.params hb) : CallP prog w hb 14 (.ref 237) mStr := callP_row B H (ctx0_ok B H) (by decide) 40 (lt_tab (by decide)) [] bp_40
theorem in_cvt (P : Params) : findIn (Kc P) (.ref 261) "_convert_string_type" = some (some (.ref 160)) := by kernel_rfl
theorem in_get (P : Params) : findIn (Kc P) (.ref 261) "get" = some (some (.ref 208)) := by kernel_rfl
theorem in_keys (P : Params) : findIn (Kc P) (.ref 261) "keys" = some (some (.ref 213)) := by kernel_rfl
theorem in_items (P : Params) : findIn (Kc P) (.ref 261) "items" = some (some (.ref 225)) := by kernel_rfl
theorem m_cvt (B : Base hb mg mb) (H : Head w.params hb) : MOk prog w hb 14 [("_convert_string_type", mCvt)] := .cons 160 (by decide) (in_cvt _) (by decide +kernel) (cvt_ok B H) .nil
theorem ctx1_ok (B : Base hb mg mb) (H : Head w.params hb) : CtxOk prog w hb mg ctx1 15 :=
  ctx_ok (m := 14) (fl := fnB noM) (ml := [("_convert_string_type", mCvt)]) (el := []) B H rfl (by funext x; rfl) rfl rfl (fnB_ok (m := 12) B H (fun _ e => by cases e) (fun _ e => by cases e) fun _ e => by cases e) .nil (m_cvt B H) (.inl rfl) (.inl rfl)
theorem get_ok (B : Base hb mg mb) (H : Head w.params hb) : CallP prog w hb 16 (.ref 208) mGet := by
  intro A φ σ us vs r s Q E hA O rv e h
  refine bk e fun z ez e => ?_
  obtain rfl := two_some ez
  refine callP_gen (m := 15) (fn := fnOfS [] (rowF 37).st) (fd := (rowF 37).fd) (f := 208) (full := us ++ [.none]) B (prims_ok H.pats) (ctx1_ok B H) (by decide) (H.fn (row_mem (k := 37) (lt_tab (by decide))) []) hA O (fun hl => ?_) (rv.append (.cons (.p .none) .nil)) e h
  cases rv with
  | cons x rv => cases rv with
    | cons y rv =>
      cases rv
      exact BindsTo.of_defaults rfl (O.base _ _ (H.row 52 rfl)) rfl rfl rfl
end
-- S53
theorem look_len : look meths "__len__" = some mLen := by kernel_rfl
theorem look_bytes : look meths "__bytes__" = some mBytes := by kernel_rfl
theorem look_str : look meths "__str__" = some mStr := by kernel_rfl
theorem look_str3 : look [("__str__", mStr)] "__str__" = some mStr := by kernel_rfl
theorem look_len3 : look [("__str__", mStr)] "__len__" = none := by kernel_rfl
theorem look_bytes3 : look [("__str__", mStr)] "__bytes__" = none := by kernel_rfl
section
variable {prog : Program} {w : World} {hb : Heap} {mg mb : Str → Option Value} {m : Nat} {C : Ctx}
theorem ctx2_ok (B : Base hb mg mb) (H : Head w.params hb) : CtxOk prog w hb mg ctx2 17 :=
  ctx_ok (m := 16) (fl := fnB noM) (ml := [("_convert_string_type", mCvt), ("get", mGet)]) (el := []) B H rfl (by funext x; rfl) rfl rfl (fnB_ok (m := 14) B H (fun _ e => by cases e) (fun _ e => by cases e) fun _ e => by cases e) .nil
    (.cons 160 (by decide) (in_cvt _) (by decide +kernel) ((cvt_ok B H).less (by decide)) (.cons 208 (by decide) (in_get _) (by decide +kernel) (get_ok B H).k .nil)) (.inl rfl) (.inl rfl)
theorem getitem_ok (B : Base hb mg mb) (H : Head w.params hb) : CallP prog w hb 18 (.ref 186) mGetitem := callP_row B H (ctx2_ok B H) (by decide) 35 (lt_tab (by decide)) [] bp_35
theorem contains_ok (B : Base hb mg mb) (H : Head w.params hb) : CallP prog w hb 18 (.ref 193) mContains := callP_row B H (ctx2_ok B H) (by decide) 36 (lt_tab (by decide)) [] bp_36
theorem ctx3_ok (B : Base hb mg mb) (H : Head w.params hb) : CtxOk prog w hb mg ctx3 17 :=
  ctx_ok (m := 16) (fl := fnB (look [("__str__", mStr)])) (ml := []) (el := []) B H rfl (by funext x; rfl) rfl rfl (fnB_ok (m := 14) B H (fun f e => by rw [look_len3] at e; cases e) (fun f e => by rw [look_bytes3] at e; cases e) fun f e => by rw [look_str3] at e; cases e; exact mstr_ok B H) .nil .nil (.inl rfl) (.inl rfl)
theorem mbytes_ok (B : Base hb mg mb) (H : Head w.params hb) : CallP prog w hb 18 (.ref 244) mBytes := callP_row B H (ctx3_ok B H) (by decide) 41 (lt_tab (by decide)) [] bp_41
theorem mdel_ok (B : Base hb mg mb) (H : Head w.params hb) : CallA prog w hb 16 (.ref 179) (runA ctx1 (mthAt 4)) := callA_row B H (ctx1_ok B H) (by decide) 34 (lt_tab (by decide)) [] bp_34
theorem ctx4_ok (B : Base hb mg mb) (H : Head w.params hb) : CtxOk prog w hb mg ctx4 17 :=
  ctx_ok (m := 16) (fl := fnB noM) (ml := [("_convert_string_type", mCvt)]) (el := []) B H rfl (by funext x; rfl) rfl rfl (fnB_ok (m := 14) B H (fun _ e => by cases e) (fun _ e => by cases e) fun _ e => by cases e) .nil ((m_cvt B H).less (by decide)) (.inl rfl) (.inr ⟨_, rfl, mdel_ok B H⟩)
theorem mset_ok (B : Base hb mg mb) (H : Head w.params hb) : CallA prog w hb 18 (.ref 174) (runA ctx4 (mthAt 3)) := callA_row B H (ctx4_ok B H) (by decide) 33 (lt_tab (by decide)) [] bp_33
theorem meths_ok (B : Base hb mg mb) (H : Head w.params hb) : MOk prog w hb 18 meths :=
  .cons 160 (by decide) (in_cvt _) (by decide +kernel) ((cvt_ok B H).less (by decide)) <| .cons 208 (by decide) (in_get _) (by decide +kernel) ((get_ok B H).k.less (by decide)) <| .cons 186 (by decide) (in_getitem _) (by decide +kernel) (getitem_ok B H).k <|
  .cons 193 (by decide) (in_contains _) (by decide +kernel) (contains_ok B H).k <| .cons 237 (by decide) (in_str _) (by decide +kernel) ((mstr_ok B H).k.less (by decide)) <| .cons 244 (by decide) (in_bytes _) (by decide +kernel) (mbytes_ok B H).k <|
  .cons 167 (by decide) (in_len _) (by decide +kernel) ((mlen_ok B H).k.less (by decide)) <| .cons 213 (by decide) (in_keys _) (by decide +kernel) ((mkeys_ok B H).k.less (by decide)) <| .cons 225 (by decide) (in_items _) (by decide +kernel) ((mitems_ok B H).k.less (by decide)) .nil
theorem fnL_ok (B : Base hb mg mb) (H : Head w.params hb) : LOk prog w hb mg 20 (fnB (look meths)) :=
  fnB_ok (m := 18) B H (fun f e => by rw [look_len] at e; cases e; exact (mlen_ok B H).less (by decide)) (fun f e => by rw [look_bytes] at e; cases e; exact mbytes_ok B H) fun f e => by rw [look_str] at e; cases e; exact (mstr_ok B H).less (by decide)
theorem ctxA_ok (B : Base hb mg mb) (H : Head w.params hb) (hm : 18 ≤ m) {l : List (Str × Pr)} {el : List (Str × (Sto → List V → Option (V × Sto)))} (F : LOk prog w hb mg m l) (E0 : EOk prog w hb mg m el) : CtxOk prog w hb mg { cA l with eff := look el } (m + 1) :=
  ctx_ok (fl := l) (ml := meths) (el := el) B H rfl rfl rfl rfl F E0 ((meths_ok B H).less hm) (.inr ⟨_, rfl, (mset_ok B H).less hm⟩) (.inr ⟨_, rfl, (mdel_ok B H).less (by omega)⟩)
theorem ctxP_ok (B : Base hb mg mb) (H : Head w.params hb) (hm : 18 ≤ m) {l : List (Str × Pr)} (F : LOk prog w hb mg m l) : CtxOk prog w hb mg (cA l) (m + 1) := ctxA_ok (el := []) B H hm F .nil
theorem ent (H : Head w.params hb) (k : Nat) (hk : k < fnTab.length) : Keeper1 prog w hb (.ref (rowF k).a) := keeper_fn (H.fn (row_mem hk) [])
theorem ctxL_ok (B : Base hb mg mb) (H : Head w.params hb) : CtxOk prog w hb mg ctxL 21 := ctxP_ok B H (by decide) (fnL_ok B H)
theorem o_gInt2AP (B : Base hb mg mb) (H : Head w.params hb) : CallP prog w hb 22 (.ref 50) gInt2AP := callP_row B H (ctxL_ok B H) (by decide) 0 (lt_tab (by decide)) [] bp_0
theorem o_gParse (B : Base hb mg mb) (H : Head w.params hb) : CallP prog w hb 22 (.ref 57) gParse := callP_row B H (ctxL_ok B H) (by decide) 1 (lt_tab (by decide)) [] bp_1
theorem o_gNot (B : Base hb mg mb) (H : Head w.params hb) : CallP prog w hb 22 (.ref 64) gNot := callP_row B H (ctxL_ok B H) (by decide) 2 (lt_tab (by decide)) [] bp_2
theorem o_gInv (B : Base hb mg mb) (H : Head w.params hb) : CallP prog w hb 22 (.ref 71) gInv := callP_row B H (ctxL_ok B H) (by decide) 3 (lt_tab (by decide)) [] bp_3
theorem o_gContains (B : Base hb mg mb) (H : Head w.params hb) : CallP prog w hb 22 (.ref 78) gContains := callP_row B H (ctxL_ok B H) (by decide) 4 (lt_tab (by decide)) [] bp_4
theorem o_gGetitem (B : Base hb mg mb) (H : Head w.params hb) : CallP prog w hb 22 (.ref 92) gGetitem := callP_row B H (ctxL_ok B H) (by decide) 6 (lt_tab (by decide)) [] bp_6
theorem o_gIand (B : Base hb mg mb) (H : Head w.params hb) : CallP prog w hb 22 (.ref 114) gIand := callP_row B H (ctxL_ok B H) (by decide) 9 (lt_tab (by decide)) [] bp_9
theorem o_gLsh (B : Base hb mg mb) (H : Head w.params hb) : CallP prog w hb 22 (.ref 121) gLsh := callP_row B H (ctxL_ok B H) (by decide) 10 (lt_tab (by decide)) [] bp_10
theorem o_gIor (B : Base hb mg mb) (H : Head w.params hb) : CallP prog w hb 22 (.ref 128) gIor := callP_row B H (ctxL_ok B H) (by decide) 11 (lt_tab (by decide)) [] bp_11
theorem o_aDelitem (B : Base hb mg mb) (H : Head w.params hb) : CallA prog w hb 22 (.ref 85) aDelitem := callA_row B H (ctxL_ok B H) (by decide) 5 (lt_tab (by decide)) [] bp_5
theorem o_aSetitem (B : Base hb mg mb) (H : Head w.params hb) : CallA prog w hb 22 (.ref 99) aSetitem := callA_row B H (ctxL_ok B H) (by decide) 7 (lt_tab (by decide)) [] bp_7
theorem o_gHint (B : Base hb mg mb) (H : Head w.params hb) : CallP prog w hb 22 (.ref 107) gHint := p_one fun {A φ σ u x r s Q E} hA O a e h =>
  callP_gen (m := 21) (fn := fnOfS [] (rowF 8).st) (fd := (rowF 8).fd) (f := 107) (full := [u, .int 0 407]) B (prims_ok H.pats) (ctxL_ok B H) (by decide) (H.fn (row_mem (k := 8) (lt_tab (by decide))) []) hA O (fun hl => BindsTo.of_defaults rfl (O.base _ _ (H.row 51 rfl)) rfl rfl rfl) (.cons a (.cons (.p (.int 0 407)) .nil)) e h
theorem l_fn1 (B : Base hb mg mb) (H : Head w.params hb) : LOk prog w hb mg 22 fn1 := ((fnL_ok B H).less (by decide)).app <|
  .cons ⟨.ref 50, glob_f B H (in_glob 0 rfl), ent H 0 (lt_tab (by decide)), (o_gInt2AP B H)⟩ <|
  .cons ⟨.ref 57, glob_f B H (in_glob 1 rfl), ent H 1 (lt_tab (by decide)), (o_gParse B H)⟩ <|
  .cons ⟨.ref 64, glob_f B H (in_glob 2 rfl), ent H 2 (lt_tab (by decide)), (o_gNot B H)⟩ <|
  .cons ⟨.ref 71, glob_f B H (in_glob 3 rfl), ent H 3 (lt_tab (by decide)), (o_gInv B H)⟩ <|
  .cons ⟨.ref 78, glob_f B H (in_glob 4 rfl), ent H 4 (lt_tab (by decide)), (o_gContains B H)⟩ <|
  .cons ⟨.ref 92, glob_f B H (in_glob 6 rfl), ent H 6 (lt_tab (by decide)), (o_gGetitem B H)⟩ <|
  .cons ⟨.ref 107, glob_f B H (in_glob 8 rfl), ent H 8 (lt_tab (by decide)), (o_gHint B H)⟩ <|
  .cons ⟨.ref 114, glob_f B H (in_glob 9 rfl), ent H 9 (lt_tab (by decide)), (o_gIand B H)⟩ <|
  .cons ⟨.ref 121, glob_f B H (in_glob 10 rfl), ent H 10 (lt_tab (by decide)), (o_gLsh B H)⟩ <|
  .cons ⟨.ref 128, glob_f B H (in_glob 11 rfl), ent H 11 (lt_tab (by decide)), (o_gIor B H)⟩ <|
  .nil
theorem cx1 (B : Base hb mg mb) (H : Head w.params hb) : CtxOk prog w hb mg (cA fn1) 23 := ctxP_ok B H (by decide) (l_fn1 B H)
theorem o_gFigures (B : Base hb mg mb) (H : Head w.params hb) : CallP prog w hb 24 (.ref 272) gFigures := callP_row B H (cx1 B H) (by decide) 12 (lt_tab (by decide)) ["told"] bp_12
theorem o_gName (B : Base hb mg mb) (H : Head w.params hb) : CallP prog w hb 24 (.ref 279) gName := callP_row B H (cx1 B H) (by decide) 13 (lt_tab (by decide)) [] bp_13
theorem o_gOther (B : Base hb mg mb) (H : Head w.params hb) : CallP prog w hb 24 (.ref 284) gOther := callP_row B H (cx1 B H) (by decide) 14 (lt_tab (by decide)) [] bp_14
theorem o_gText (B : Base hb mg mb) (H : Head w.params hb) : CallP prog w hb 24 (.ref 289) gText := callP_row B H (cx1 B H) (by decide) 15 (lt_tab (by decide)) [] bp_15
theorem l_fn2 (B : Base hb mg mb) (H : Head w.params hb) : LOk prog w hb mg 24 fn2 := ((l_fn1 B H).less (by decide)).app <|
  .cons ⟨.ref 272, glob_f B H (in_glob 12 rfl), ent H 12 (lt_tab (by decide)), (o_gFigures B H)⟩ <|
  .cons ⟨.ref 279, glob_f B H (in_glob 13 rfl), ent H 13 (lt_tab (by decide)), (o_gName B H)⟩ <|
  .cons ⟨.ref 284, glob_f B H (in_glob 14 rfl), ent H 14 (lt_tab (by decide)), (o_gOther B H)⟩ <|
  .cons ⟨.ref 289, glob_f B H (in_glob 15 rfl), ent H 15 (lt_tab (by decide)), (o_gText B H)⟩ <|
  .nil
theorem cx2 (B : Base hb mg mb) (H : Head w.params hb) : CtxOk prog w hb mg (cA fn2) 25 := ctxP_ok B H (by decide) (l_fn2 B H)
theorem o_gTold (B : Base hb mg mb) (H : Head w.params hb) : CallP prog w hb 26 (.ref 294) gTold := callP_row B H (cx2 B H) (by decide) 16 (lt_tab (by decide)) [] bp_16
theorem o_gNumber (B : Base hb mg mb) (H : Head w.params hb) : CallP prog w hb 26 (.ref 301) gNumber := callP_row B H (cx2 B H) (by decide) 17 (lt_tab (by decide)) [] bp_17
theorem o_gWord (B : Base hb mg mb) (H : Head w.params hb) : CallP prog w hb 26 (.ref 306) gWord := callP_row B H (cx2 B H) (by decide) 18 (lt_tab (by decide)) [] bp_18
theorem o_gSees (B : Base hb mg mb) (H : Head w.params hb) : CallP prog w hb 26 (.ref 311) gSees := callP_row B H (cx2 B H) (by decide) 19 (lt_tab (by decide)) ["sees"] bp_19
theorem o_gUp (B : Base hb mg mb) (H : Head w.params hb) : CallP prog w hb 26 (.ref 316) gUp := callP_row B H (cx2 B H) (by decide) 20 (lt_tab (by decide)) [] bp_20
theorem o_gDefs (B : Base hb mg mb) (H : Head w.params hb) : CallP prog w hb 26 (.ref 323) gDefs := callP_row B H (cx2 B H) (by decide) 21 (lt_tab (by decide)) ["told"] bp_21
theorem o_gWords (B : Base hb mg mb) (H : Head w.params hb) : CallP prog w hb 26 (.ref 330) gWords := callP_row B H (cx2 B H) (by decide) 22 (lt_tab (by decide)) ["words"] bp_22
theorem l_fn3 (B : Base hb mg mb) (H : Head w.params hb) : LOk prog w hb mg 26 fn3 := ((l_fn2 B H).less (by decide)).app <|
  .cons ⟨.ref 294, glob_f B H (in_glob 16 rfl), ent H 16 (lt_tab (by decide)), (o_gTold B H)⟩ <|
  .cons ⟨.ref 301, glob_f B H (in_glob 17 rfl), ent H 17 (lt_tab (by decide)), (o_gNumber B H)⟩ <|
  .cons ⟨.ref 306, glob_f B H (in_glob 18 rfl), ent H 18 (lt_tab (by decide)), (o_gWord B H)⟩ <|
  .cons ⟨.ref 311, glob_f B H (in_glob 19 rfl), ent H 19 (lt_tab (by decide)), (o_gSees B H)⟩ <|
  .cons ⟨.ref 316, glob_f B H (in_glob 20 rfl), ent H 20 (lt_tab (by decide)), (o_gUp B H)⟩ <|
  .cons ⟨.ref 323, glob_f B H (in_glob 21 rfl), ent H 21 (lt_tab (by decide)), (o_gDefs B H)⟩ <|
  .cons ⟨.ref 330, glob_f B H (in_glob 22 rfl), ent H 22 (lt_tab (by decide)), (o_gWords B H)⟩ <|
  .nil
theorem cx3 (B : Base hb mg mb) (H : Head w.params hb) : CtxOk prog w hb mg (cA fn3) 27 := ctxP_ok B H (by decide) (l_fn3 B H)
theorem o_gDressed (B : Base hb mg mb) (H : Head w.params hb) : CallP prog w hb 28 (.ref 337) gDressed := callP_row B H (cx3 B H) (by decide) 23 (lt_tab (by decide)) [] bp_23
theorem o_gDeed (B : Base hb mg mb) (H : Head w.params hb) : CallP prog w hb 28 (.ref 344) gDeed := callP_row B H (cx3 B H) (by decide) 24 (lt_tab (by decide)) [] bp_24
theorem l_fn4 (B : Base hb mg mb) (H : Head w.params hb) : LOk prog w hb mg 28 fn4 := ((l_fn3 B H).less (by decide)).app <|
  .cons ⟨.ref 337, glob_f B H (in_glob 23 rfl), ent H 23 (lt_tab (by decide)), (o_gDressed B H)⟩ <|
  .cons ⟨.ref 344, glob_f B H (in_glob 24 rfl), ent H 24 (lt_tab (by decide)), (o_gDeed B H)⟩ <|
  .nil
theorem e_eff4 (B : Base hb mg mb) (H : Head w.params hb) : EOk prog w hb mg 28 eff4 :=
  .cons ⟨.ref 85, glob_f B H (in_glob 5 rfl), ent H 5 (lt_tab (by decide)), (o_aDelitem B H).less (by decide)⟩ <|
  .cons ⟨.ref 99, glob_f B H (in_glob 7 rfl), ent H 7 (lt_tab (by decide)), (o_aSetitem B H).less (by decide)⟩ .nil
theorem cx4 (B : Base hb mg mb) (H : Head w.params hb) : CtxOk prog w hb mg (cA fn4) 29 := ctxP_ok B H (by decide) (l_fn4 B H)
theorem cx5 (B : Base hb mg mb) (H : Head w.params hb) : CtxOk prog w hb mg ctx5 29 := ctxA_ok B H (by decide) (l_fn4 B H) (e_eff4 B H)
theorem o_aMachine (B : Base hb mg mb) (H : Head w.params hb) : CallA prog w hb 30 (.ref 349) aMachine := callA_row B H (cx5 B H) (by decide) 25 (lt_tab (by decide)) ["log"] bp_25
theorem o_gLog (B : Base hb mg mb) (H : Head w.params hb) : CallP prog w hb 30 (.ref 354) gLog := callP_row B H (cx4 B H) (by decide) 26 (lt_tab (by decide)) ["line", "known", "log"] bp_26
theorem o_gForced (B : Base hb mg mb) (H : Head w.params hb) : CallP prog w hb 30 (.ref 359) gForced := callP_row B H (cx4 B H) (by decide) 27 (lt_tab (by decide)) [] bp_27
theorem l_fn5 (B : Base hb mg mb) (H : Head w.params hb) : LOk prog w hb mg 30 fn5 := ((l_fn4 B H).less (by decide)).app <|
  .cons ⟨.ref 354, glob_f B H (in_glob 26 rfl), ent H 26 (lt_tab (by decide)), (o_gLog B H)⟩ <|
  .cons ⟨.ref 359, glob_f B H (in_glob 27 rfl), ent H 27 (lt_tab (by decide)), (o_gForced B H)⟩ <|
  .nil
theorem cx5p (B : Base hb mg mb) (H : Head w.params hb) : CtxOk prog w hb mg (cA fn5) 31 := ctxP_ok B H (by decide) (l_fn5 B H)
theorem o_gTruths (B : Base hb mg mb) (H : Head w.params hb) : CallP prog w hb 32 (.ref 364) gTruths := callP_row B H (cx5p B H) (by decide) 28 (lt_tab (by decide)) ["told"] bp_28
theorem keep_hdr (H : Head w.params hb) : Keeper1 prog w hb (.ref 261) := by
  obtain ⟨k, _, L⟩ := looks_keep (M := model prog w) (K := Kc w.params) (f := .ref 261) (by kernel_rfl) H.hdr.frag
  exact ⟨k, fun s A Q E hk hq => L A Q E s hk hq⟩
theorem o_headers (B : Base hb mg mb) (H : Head w.params hb) : CallP prog w hb 17 (.ref 261) headersV :=
  init_ok (m := 15) B (prims_ok H.pats) (ctx1_ok B H) (by decide) H.hdr (fd := (rowF 30).fd) (H.fn (row_mem (k := 30) (lt_tab (by decide))) []) fun us s hk hl => by
    have hl : us.length = 2 := hl
    match us, hl with
    | [a, b], _ => exact BindsTo.of_defaults rfl (hk _ _ (H.row 53 rfl)) rfl rfl rfl
theorem l_fn6 (B : Base hb mg mb) (H : Head w.params hb) : LOk prog w hb mg 32 fn6 := ((l_fn5 B H).less (by decide)).app <|
  .cons ⟨.ref 364, glob_f B H (in_glob 28 rfl), ent H 28 (lt_tab (by decide)), o_gTruths B H⟩ <|
  .cons ⟨.ref 261, glob_f B H (in_glob 33 rfl), keep_hdr H, (o_headers B H).less (by decide)⟩ .nil
theorem EOk.less {n : Nat} {l : List (Str × (Sto → List V → Option (V × Sto)))} (x : EOk prog w hb mg m l) (h : m ≤ n) : EOk prog w hb mg n l := fun f g e => let ⟨fv, a, b, c⟩ := x f g e; ⟨fv, a, b, c.less h⟩
theorem EOk.app {l l' : List (Str × (Sto → List V → Option (V × Sto)))} (x : EOk prog w hb mg m l) (y : EOk prog w hb mg m l') : EOk prog w hb mg m (l ++ l') := fun f g h => (List.mem_append.mp h).elim (x f g) (y f g)
theorem e_eff6 (B : Base hb mg mb) (H : Head w.params hb) : EOk prog w hb mg 32 (eff4 ++ ([("_law_machine", aMachine)] : List (Str × (Sto → List V → Option (V × Sto))))) := ((e_eff4 B H).less (by decide)).app <|
  .cons ⟨.ref 349, glob_f B H (in_glob 25 rfl), ent H 25 (lt_tab (by decide)), (o_aMachine B H).less (by decide)⟩ .nil
theorem cx6 (B : Base hb mg mb) (H : Head w.params hb) : CtxOk prog w hb mg ctx6 33 := ctxA_ok B H (by decide) (l_fn6 B H) (e_eff6 B H)
theorem o_gLaw (B : Base hb mg mb) (H : Head w.params hb) : CallP prog w hb 34 (.ref 369) gLaw := callP_row B H (cx6 B H) (by decide) 29 (lt_tab (by decide)) ["line", "rows", "quiet", "marks", "worlds"] bp_29
end
end
section
open PySem PySem.Calls PyProof.Rows PySem.W PySem.SeqAt
set_option autoImplicit false
set_option maxHeartbeats 0
set_option maxRecDepth 100000
-- HA
theorem hof (w : World) (s : Shared) (e : hobs s = hval w) : Head w.params s.heap := by
  obtain ⟨e1, e2⟩ := Prod.mk.inj e
  obtain ⟨e2, e3⟩ := Prod.mk.inj e2
  refine ⟨?_, List.map_inj_left.mp e2, ?_⟩
  · rw [show objA = (objsE w.params).map (·.1) from rfl, List.map_map] at e1
    exact List.map_inj_left.mp e1
  · obtain ⟨o, eo, e4⟩ := Option.map_eq_some_iff.mp e3
    exact ⟨o, eo, List.map_inj_left.mp e4⟩
noncomputable def hook : Hook := ⟨_, hobs, hval, fun w h => Head w.params h, hof, fun _ _ _ x k => x.keeps k⟩
end
section
open PySem PySem.Calls PyProof.Rows PySem.W PySem.SeqAt
set_option maxHeartbeats 0
set_option maxRecDepth 100000
-- HZ
theorem rep_ints {φ : List Addr} {h : Heap} : ∀ {vs : List Value} {l : List Int}, IntsAre vs l → RepA φ h vs (l.map .int)
  | _, _, .nil => .nil
  | _, _, .cons i t r => .cons (.int i t) (rep_ints r)
theorem law_walk (gl : ∀ l : List Int, l.length ≤ 63 → gLaw [] [.p (.list (l.map .int))] = some (.p (.bool true))) {d : DefRec} (hn : d.name = "law") : WalkO qV hloose (XL qV []) (fun w h => Head w.params h) PySem.Challenge.rw_xt0014_01.row.toRowW d [] fun f vs => PySem.call f vs := by
  intro w s₀ s₁ mg mb G Y fa o pm cd doc dV kV ho hd hcd hD hmg hg args vals as hpre hlay hrd hwl hlo
  have B : Base s₁.heap mg mb := ⟨G.T.g, G.T.b, G.T.builtins, G.T.nolimit⟩
  have hfa : fa = 369 := by
    have := Y.mgl B.g (x := "law") (in_glob 29 rfl)
    rw [hn, this] at hmg
    cases hmg; rfl
  subst hfa
  clear ho hd hcd hD hmg
  wrow_args hpre hlay hrd hwl hlo
  rename (IntsAre _ _) => hI
  rename (Heap.IsList _ _ _) => hL
  rename (¬ (_ : Int) < _) => hlen
  have O : StoOk s₁.heap ⟨[], []⟩ [] s₁.heap := ⟨fun _ _ e => e, fun a m => by simp [Ap.all] at m, fun a m => by simp [Ap.all] at m, .nil, fun a m => by simp at m, rfl, fun i l e => by simp at e⟩
  refine o_gLaw B Y callerA ⟨[], []⟩ [] _ _ _ s₁ _ _ ⟨rfl, by show 301 + 34 < 1000; decide, by show 4 + 4 * 34 < 9900; decide⟩ O (.cons (.p (.list (by simp [Ap.all]) hL (rep_ints hI))) .nil) (gl _ (by omega)) fun u s' k r => ?_
  rw [repD_bool (repV_p r)]
  refine GoodW.toG ⟨.inl ⟨_, .bool true, [], rfl, fun cls => rfl, .bool true, by kernel_rfl, fun _ => ⟨.nil, fun a m => by cases m⟩⟩, k.all, ?_, ?_⟩
  · obtain ⟨h', t, rfl, _⟩ := k; rfl
  · obtain ⟨h', t, rfl, _⟩ := k; exact hg
theorem gl_holds (left : LeftO P0 qV hloose hXt hobs hval 4000 true) (gl : ∀ l : List Int, l.length ≤ 63 → gLaw [] [.p (.list (l.map .int))] = some (.p (.bool true))) : PySem.Challenge.rw_xt0014_01.Holds := by
  w_on; refine holds_law well_said fun said => ?_
  refine holds_open (q := qV) (loose := hloose) (Xt := hXt) (XP := XL qV []) (Yf := hobs) (Ya := hval) (YP := fun w h => Head w.params h) (N := 4000) left hof (fun _ _ _ x k => x.keeps k) (fun s e => xl_of s (Bool.and_eq_true_iff.mp e).1) XL.keeps (by rfl) (by rfl) (by rfl) (fun s e => recFacts_of (Bool.and_eq_true_iff.mp e).2) (by rfl) (by first | assumption | decide +kernel) (by decide +kernel) ⟨rfl, rfl, rfl, rfl, rfl, by decide +kernel⟩ ?hw ?hc
  case hw => w_witness2
  exact law_walk gl rfl
end
section
open PySem
set_option autoImplicit false
-- E1
section
variable {C : Ctx} {f : Fn} {σ σ' : Sto} {vs : List V} {ρ ρ' : Rho} {r : V} {b : Nat}
theorem run_fn (hb : bindP f.params vs = some ρ) (h : body (ex C fuelE f.mu b σ.length fuelS f.sc) f.bd ρ σ = some (.ret r, ρ', σ')) : runFn C f b σ vs = some (r, σ') := bd hb (bd h rfl)
theorem run_fn0 (hb : bindP f.params vs = some ρ) (h : body (ex C fuelE f.mu b σ.length fuelS f.sc) f.bd ρ σ = some (.next, ρ', σ')) : runFn C f b σ vs = some (.p .none, σ') := bd hb (bd h rfl)
theorem run_P (hb : bindP f.params vs = some ρ) (h : body (ex C fuelE f.mu σ.length σ.length fuelS f.sc) f.bd ρ σ = some (.ret r, ρ', σ')) : runP C f σ vs = some r := md (run_fn hb h)
theorem run_A (hb : bindP f.params vs = some ρ) (h : body (ex C fuelE f.mu 0 σ.length fuelS f.sc) f.bd ρ σ = some (.ret r, ρ', σ')) : runA C f σ vs = some (r, σ'.take σ.length) := md (run_fn hb h)
theorem run_A0 (hb : bindP f.params vs = some ρ) (h : body (ex C fuelE f.mu 0 σ.length fuelS f.sc) f.bd ρ σ = some (.next, ρ', σ')) : runA C f σ vs = some (.p .none, σ'.take σ.length) := md (run_fn0 hb h)
end
section
variable {S : Rho → Sto → Stmt → Option (Fl × Rho × Sto)} {s : Stmt} {t : List Stmt} {ρ ρ' : Rho} {σ σ' : Sto} {x : Option (Fl × Rho × Sto)} {v : V}
theorem b_cons (h : S ρ σ s = some (.next, ρ', σ')) (h2 : body S t ρ' σ' = x) : body S (s :: t) ρ σ = x := bd h h2
theorem b_ret (h : S ρ σ s = some (.ret v, ρ', σ')) : body S (s :: t) ρ σ = some (.ret v, ρ', σ') := bd h rfl
theorem b_brk (h : S ρ σ s = some (.brk, ρ', σ')) : body S (s :: t) ρ σ = some (.brk, ρ', σ') := bd h rfl
theorem b_nil : body S [] ρ σ = some (.next, ρ, σ) := rfl
end
theorem glob_ok {sc : Sc} {ρ : Rho} {f : Str} (hl : ρ.lookup f = none) (hk : (sc.lookup f == some .globalImplicit && !(f == ("__debug__" : Str))) = true) : isGlob sc ρ f = true := by unfold isGlob; rw [hl, hk]; rfl
theorem put_ok' {σ : Sto} {b j : Nat} {l0 l : List D} {f : List D → Option (List D)} (hb : b ≤ j) (h0 : σ[j]? = some l0) (hf : f l0 = some l) : put σ b j f = some (σ.set j l) := gd (decide_eq_true hb) (bd h0 (md hf))
section
variable {C : Ctx} {n k : Nat} {mu : List Str} {b z : Nat} {sc : Sc} {ρ ρ' : Rho} {σ σ' σ'' : Sto} {v : V} {x : Str} {q p ap cp : Pos} {value e o i test iter t : Expr} {l : List D} {y : Option (Fl × Rho × Sto)} {bd els : List Stmt} {d : D}
theorem s_act (hm : mu.contains x = false) (hc : canStore sc x = true) (h : evA C (ev C n) b sc ρ σ value = some (v, σ')) : ex C n mu b z (k + 1) sc ρ σ (.Assign [.Name x q] value p) = some (.next, rset ρ x v, σ') :=
  cdf hm (gd hc (md h))
theorem evA_eff {f : Str} {args : List Expr} {g : Sto → List V → Option (V × Sto)} {vs : List V} (hg : C.eff f = some g) (hl : ρ.lookup f = none) (hk : (sc.lookup f == some .globalImplicit && !(f == ("__debug__" : Str))) = true) (ha : evs ((ev C n).e sc ρ σ) args = some vs) (h : g σ vs = some (v, σ')) :
    evA C (ev C n) 0 sc ρ σ (.Call (.Name f q) args [] p) = some (v, σ') := by
  have e : effOf C 0 sc ρ (.Call (.Name f q) args [] p) = some (g, args) := Mine.bd rfl (Mine.bd rfl (Mine.bd hg (gd (and_mk rfl (and_mk (glob_ok hl hk) rfl)) rfl)))
  unfold evA; rw [e]; exact Mine.bd ha h
theorem s_name (hm : mu.contains x = false) (hc : canStore sc x = true) (hA : evA C (ev C n) b sc ρ σ value = ((ev C n).e sc ρ σ value).map fun v => (v, σ)) (h : (ev C n).e sc ρ σ value = some v) : ex C n mu b z (k + 1) sc ρ σ (.Assign [.Name x q] value p) = some (.next, rset ρ x v, σ) :=
  s_act hm hc (hA.trans (md h))
theorem s_fresh (hm : mu.contains x = true) (hc : (isFresh value && canStore sc x) = true) (h : (ev C n).e sc ρ σ value = some (.p (.list l))) : ex C n mu b z (k + 1) sc ρ σ (.Assign [.Name x q] value p) = some (.next, rset ρ x (.own σ.length), σ ++ [l]) :=
  cdt hm (gd hc (Mine.bd h rfl))
theorem s_tgt {es : List Expr} {j : Nat} (hd : isDisplay value = false) (hc : (targetNames (.Tuple es j q)).all (canStore sc) = true) (hA : evA C (ev C n) b sc ρ σ value = ((ev C n).e sc ρ σ value).map fun v => (v, σ)) (h : (ev C n).e sc ρ σ value = some v) (hb : bindT (.Tuple es j q) v ρ = some ρ') :
    ex C n mu b z (k + 1) sc ρ σ (.Assign [.Tuple es j q] value p) = some (.next, ρ', σ) :=
  gd (congrArg not hd) (Mine.bd (hA.trans (md h)) (md (x := (ρ', σ)) (gd hc (md hb))))
theorem s_slice (hd : isDisplay value = false) (hA : evA C (ev C n) b sc ρ σ value = ((ev C n).e sc ρ σ value).map fun v => (v, σ)) (h : (ev C n).e sc ρ σ value = some (.p (.list l))) {j : Nat} {l0 : List D} (ho : (ev C n).e sc ρ σ o = some (.own j)) (hl : l.length ≤ 1000) (hb : b ≤ j) (h0 : σ[j]? = some l0) (hl0 : l0.length ≤ 1000) :
    ex C n mu b z (k + 1) sc ρ σ (.Assign [.Subscript o (.Slice none none none ap) q] value p) = some (.next, ρ, σ.set j l) := by
  have e : assignTo C (ev C n) sc b ρ σ (.p (.list l)) (.Subscript o (.Slice none none none ap) q) = some (ρ, σ.set j l) := Mine.bd ho (gd (decide_eq_true hl) (md (put_ok' hb h0 (gd (decide_eq_true hl0) rfl))))
  exact gd (congrArg not hd) (Mine.bd (hA.trans (md h)) (md e))
theorem s_ret (h : (ev C n).e sc (ρ.map fun x => (x.1, frozen σ z x.2)) (σ.take z) e = some v) : ex C n mu b z (k + 1) sc ρ σ (.Return (some e) p) = some (.ret v, ρ, σ) := md h
theorem s_if_t (h : (ev C n).t sc ρ σ test = some true) (hb : body (ex C n mu b z k sc) bd ρ σ = y) : ex C n mu b z (k + 1) sc ρ σ (.If test bd els p) = y := Mine.bd h hb
theorem s_if_f (h : (ev C n).t sc ρ σ test = some false) (hb : body (ex C n mu b z k sc) els ρ σ = y) : ex C n mu b z (k + 1) sc ρ σ (.If test bd els p) = y := Mine.bd h hb
theorem s_for (h : (ev C n).e sc ρ σ iter = some v) (hi : items? σ v = some l) (hc : ((targetNames t).all (canStore sc) && still b v && decide (l.length ≤ lim)) = true)
    (hf : forGo (fun ρ σ => body (ex C n mu b z k sc) bd ρ σ) (fun d ρ => bindT t (.p d) ρ) l ρ σ = y) : ex C n mu b z (k + 1) sc ρ σ (.For t iter bd [] p) = y := Mine.bd h (Mine.bd hi (gd hc hf))
theorem s_append {j : Nat} {x : Expr} {l0 : List D} (hs : notSuper o = true) (ho : (ev C n).e sc ρ σ o = some (.own j)) (hp : (ap.endLine == cp.line) = true) (hx : evA C (ev C n) b sc ρ σ x = some (.p d, σ')) (hb : b ≤ j) (h0 : σ'[j]? = some l0) (hl : l0.length < lim) :
    ex C n mu b z (k + 1) sc ρ σ (.Expr (.Call (.Attribute o "append" ap) [x] [] cp) p) = some (.next, ρ, σ'.set j (l0 ++ [d])) :=
  gd (and_mk (and_mk (beq_self_eq_true _) hs) hp) (Mine.bd ho (Mine.bd rfl (Mine.bd hx (Mine.bd rfl (md (put_ok' hb h0 (gd (decide_eq_true hl) rfl)))))))
theorem s_del {j : Nat} (ho : (ev C n).e sc ρ σ o = some (.hdr j)) (hi : (ev C n).e sc ρ σ i = some (.p d)) (h : C.hdel σ j d = some σ') : ex C n mu 0 z (k + 1) sc ρ σ (.Delete [.Subscript o i q] p) = some (.next, ρ, σ') :=
  Mine.bd ho (Mine.bd hi (md h))
theorem no_slice (hn : ∀ a b c p, i ≠ .Slice a b c p) : slice? i = none := by cases i <;> first | rfl | exact absurd rfl (hn _ _ _ _)
theorem s_setH {j : Nat} {d' : D} (hd : isDisplay value = false) (hn : ∀ a b c p, i ≠ .Slice a b c p) (hA : evA C (ev C n) 0 sc ρ σ value = ((ev C n).e sc ρ σ value).map fun v => (v, σ)) (h : (ev C n).e sc ρ σ value = some (.p d')) (ho : (ev C n).e sc ρ σ o = some (.hdr j)) (hi : (ev C n).e sc ρ σ i = some (.p d)) (hh : C.hset σ j d d' = some σ') :
    ex C n mu 0 z (k + 1) sc ρ σ (.Assign [.Subscript o i q] value p) = some (.next, ρ, σ') := by
  have e1 := no_slice hn
  have e : assignTo C (ev C n) sc 0 ρ σ (.p d') (.Subscript o i q) = some (ρ, σ') := cdf (by unfold fullSlice; rw [e1]; rfl) (gd (by rw [e1]; rfl) (Mine.bd rfl (Mine.bd ho (Mine.bd hi (Mine.bd rfl (Mine.bd rfl (gd rfl (md hh))))))))
  exact gd (congrArg not hd) (Mine.bd (hA.trans (md h)) (md e))
theorem s_try (h : body (ex C n mu b z k sc) bd ρ σ = some (.ret v, ρ', σ')) {hs els : List _} : ex C n mu b z (k + 1) sc ρ σ (.Try bd hs els [] p) = some (.ret v, ρ', σ') := Mine.bd h rfl
theorem s_kw {m : Str} {args : List Expr} {kw : Keyword} {u : V} (h : (ev C n).e sc ρ σ (.Call (.Attribute o m ap) args [kw] cp) = some u) : ex C n mu b z (k + 1) sc ρ σ (.Expr (.Call (.Attribute o m ap) args [kw] cp) p) = some (.next, ρ, σ) := md h
end
section
variable {C : Ctx} {n : Nat} {sc : Sc} {ρ ρ' : Rho} {σ : Sto} {v w u : V} {q p ap cp : Pos} {e l r o i : Expr} {x m : Str} {g : Sto → List V → Option V} {vs ks : List V} {args : List Expr} {kws : List Keyword}
theorem or_l {α : Type} {a b : Option α} {y : α} (h : a = some y) : a.or b = some y := by rw [h]; rfl
theorem or_r {α : Type} {a b y : Option α} (h : a = none) (h2 : b = y) : a.or b = y := by rw [h]; exact h2
theorem e_call (hg : C.fn x = some g) (hl : ρ.lookup x = none) (hk : (sc.lookup x == some .globalImplicit && !(x == ("__debug__" : Str))) = true) (ha : evs ((ev C n).e sc ρ σ) args = some vs) (h : g σ vs = some v) : (ev C (n + 1)).e sc ρ σ (.Call (.Name x q) args [] p) = some v :=
  or_l (a := callV C (ev C n) sc ρ σ x args) (bd hg (gd (glob_ok hl hk) (bd ha h)))
theorem e_meth (hk : (notSuper o && (true == !(m == ("_convert_string_type" : Str))) && decide (args.length < 20) && (ap.endLine == cp.line)) = true) (ho : (ev C n).e sc ρ σ o = some u) (ha : evs ((ev C n).e sc ρ σ) args = some vs) (_ : (0 : Nat) = 0) (h : methV C σ m u (vs ++ []) = some v) :
    (ev C (n + 1)).e sc ρ σ (.Call (.Attribute o m ap) args [] cp) = some v :=
  or_r rfl (show callM C (ev C n) sc ρ σ o m args [] (ap.endLine == cp.line) = _ from gd (and_mk (and_mk (an (an (an hk).1).1).1 (an (an hk).1).2) (an hk).2) (bd ho (bd ha (or_l (gd (and_mk rfl (beq_iff_eq.mp (an (an (an hk).1).1).2).symm) (List.append_nil vs ▸ h))))))
theorem e_methK {k : Keyword} {j : Nat} (hk : (notSuper o && (m == ("_convert_string_type" : Str)) && decide (args.length < 20) && (ap.endLine == cp.line)) = true) (ho : (ev C n).e sc ρ σ o = some (.hdr j)) (ha : evs ((ev C n).e sc ρ σ) args = some vs) (hw : kwAll ((ev C n).e sc ρ σ) [k] = some ks) (h : methV C σ m (.hdr j) (vs ++ ks) = some v) :
    (ev C (n + 1)).e sc ρ σ (.Call (.Attribute o m ap) args [k] cp) = some v :=
  or_r rfl (show callM C (ev C n) sc ρ σ o m args [k] (ap.endLine == cp.line) = _ from gd (and_mk (and_mk (an (an (an hk).1).1).1 (an (an hk).1).2) (an hk).2) (bd ho (bd ha (or_r rfl (gd (and_mk rfl (an (an (an hk).1).1).2) (bd rfl (bd hw h)))))))
theorem e_bin {op : Operator} (hl : (ev C n).e sc ρ σ l = some u) (hr : (ev C n).e sc ρ σ r = some w) (h : binop σ op u w = some v) : (ev C (n + 1)).e sc ρ σ (.BinOp l op r p) = some v := bd hl (bd hr h)
theorem e_cmp {op : CmpOp} {c : Bool} (hl : (ev C n).e sc ρ σ l = some u) (hr : (ev C n).e sc ρ σ r = some w) (h : cmpOp C σ op u w = some c) : (ev C (n + 1)).e sc ρ σ (.Compare l [op] [r] p) = some (.p (.bool c)) := bd hl (bd hr (md h))
theorem t_cmp {op : CmpOp} {c : Bool} (hl : (ev C n).e sc ρ σ l = some u) (hr : (ev C n).e sc ρ σ r = some w) (h : cmpOp C σ op u w = some c) : (ev C (n + 1)).t sc ρ σ (.Compare l [op] [r] p) = some c := bd hl (bd hr h)
theorem e_if_t {t : Expr} (ht : (ev C n).t sc ρ σ t = some true) (h : (ev C n).e sc ρ σ l = some v) : (ev C (n + 1)).e sc ρ σ (.IfExp t l r p) = some v := bd ht h
theorem e_if_f {t : Expr} (ht : (ev C n).t sc ρ σ t = some false) (h : (ev C n).e sc ρ σ r = some v) : (ev C (n + 1)).e sc ρ σ (.IfExp t l r p) = some v := bd ht h
theorem e_sub (hn : ∀ a b c p, i ≠ .Slice a b c p) (ho : (ev C n).e sc ρ σ o = some u) (hi : (ev C n).e sc ρ σ i = some w) (h : subV C σ u w = some v) : (ev C (n + 1)).e sc ρ σ (.Subscript o i p) = some v := by
  show (Option.bind (slice? i) _).or (if (slice? i).isNone = true then _ else none) = _
  rw [no_slice hn]; exact bd ho (bd hi h)
theorem evs_nil {f : Expr → Option V} : evs f [] = some [] := rfl
theorem evs_c {f : Expr → Option V} (hs : ∀ a b, e ≠ .Starred a b) (h : f e = some v) (hr : evs f args = some vs) : evs f (e :: args) = some (v :: vs) :=
  cdf (by cases e <;> first | rfl | exact absurd rfl (hs _ _)) (bd h (md hr))
theorem e_list {ds : List D} (hl : decide (args.length ≤ 1000) = true) (ha : evs ((ev C n).e sc ρ σ) args = some vs) (hp : pures vs = some ds) : (ev C (n + 1)).e sc ρ σ (.List args p) = some (.p (.list ds)) := gd hl (bd ha (md hp))
theorem e_tuple {ds : List D} {j : Nat} (hl : decide (args.length ≤ 1000) = true) (ha : evs ((ev C n).e sc ρ σ) args = some vs) (hp : pures vs = some ds) : (ev C (n + 1)).e sc ρ σ (.Tuple args j p) = some (.p (.tuple ds)) := gd hl (bd ha (md hp))
theorem compGo_all {R : Rec} {t elt : Expr} {ifs : List Expr} {keep : D → Bool} {f : D → D} : ∀ {l : List D}, (∀ d ∈ l, ∃ ρ', bindT t (.p d) ρ = some ρ' ∧ ifsAll (R.t sc ρ' σ) ifs = some (keep d) ∧ (keep d = true → R.e sc ρ' σ elt = some (.p (f d)))) →
    compGo R sc σ t elt ifs ρ l = some ((l.filter keep).map f)
  | [], _ => rfl
  | d :: l, h => by
    obtain ⟨ρ', h1, h2, h3⟩ := h d List.mem_cons_self
    have ih := compGo_all (l := l) fun d hd => h d (List.mem_cons_of_mem _ hd)
    refine bd h1 (bd h2 ?_)
    rw [List.filter_cons]
    cases hk : keep d with
    | false => exact ih
    | true => exact bd (h3 hk) (md ih)
theorem e_comp {t elt iter : Expr} {ifs : List Expr} {scope : Scope} {ll : List D} {keep : D → Bool} {f : D → D} (hv : (ev C n).e sc ρ σ iter = some v) (hi : items? σ v = some ll) (hk : (closOk scope sc ρ && scopeOk scope t && decide (ll.length ≤ lim)) = true)
    (h : ∀ d ∈ ll, ∃ ρ', bindT t (.p d) (freeOf scope.names ρ) = some ρ' ∧ ifsAll ((ev C n).t scope.names ρ' σ) ifs = some (keep d) ∧ (keep d = true → (ev C n).e scope.names ρ' σ elt = some (.p (f d)))) :
    (ev C (n + 1)).e sc ρ σ (.ListComp elt [⟨t, iter, ifs, 0⟩] scope p) = some (.p (.list ((ll.filter keep).map f))) :=
  bd hv (bd hi (gd hk (md (compGo_all h))))
end
end
section
open PySem
set_option autoImplicit false
set_option maxRecDepth 100000
-- E2
section
variable {C : Ctx} {n : Nat} {sc : Sc} {ρ : Rho} {σ : Sto} {v : V} {p q : Pos} {f : Expr} {args : List Expr} {kws : List Keyword} {c : Bool} {x : Str}
theorem t_call (h : (ev C n).e sc ρ σ (.Call f args kws p) = some v) (ht : truth σ v = some c) : (ev C (n + 1)).t sc ρ σ (.Call f args kws p) = some c := bd h ht
theorem t_name (h : (ev C n).e sc ρ σ (.Name x p) = some v) (ht : truth σ v = some c) : (ev C (n + 1)).t sc ρ σ (.Name x p) = some c := bd h ht
theorem search_ok (C : Ctx) {k : Nat} {s : List Nat} (hk : (k == 1 || k == 2) = true) (h : s.any (bad k) = false) (hl : s.length ≤ lim) : methV C σ "search" (.pat k) [.p (.str s)] = some (.p .none) := by
  have e : ((k == 1 || k == 2) && ("search" : Str) == "search" && !s.any (bad k) && decide (s.length ≤ lim)) = true := by
    rw [hk, h, beq_self_eq_true, decide_eq_true hl]; rfl
  exact bd rfl (bd rfl (gd e rfl))
end
theorem cvt_name (σ : Sto) (u : V) {s : List Nat} (h : s.any (bad 1) = false) (hl : s.length ≤ lim) : mCvt σ [u, .p (.str s), .p (.bool true)] = some (.p (.str s)) :=
  run_P (ρ' := [("self", u), ("value", .p (.str s)), ("name", .p (.bool true)), ("regex", .pat 1)]) (σ' := σ) rfl (b_ret (s_if_t rfl (b_cons (s_name rfl rfl rfl rfl) (b_cons (s_if_f (t_call (e_meth rfl rfl rfl rfl (search_ok _ rfl h hl)) rfl) rfl) (b_ret (s_ret rfl))))))
-- E3
section
variable {C : Ctx} {f : Fn} {σ σ' σ'' : Sto} {vs : List V} {ρ : Rho} {r v : V} {b z n k : Nat} {S : Rho → Sto → Stmt → Option (Fl × Rho × Sto)} {s : Stmt} {t : List Stmt} {P : Rho → Prop} {fl : Fl}
theorem run_PE (hb : bindP f.params vs = some ρ) (h : ∃ ρ', body (ex C fuelE f.mu σ.length σ.length fuelS f.sc) f.bd ρ σ = some (.ret r, ρ', σ')) : runP C f σ vs = some r := h.elim fun _ h => run_P hb h
theorem run_AE (hb : bindP f.params vs = some ρ) (h : ∃ ρ', body (ex C fuelE f.mu 0 σ.length fuelS f.sc) f.bd ρ σ = some (.ret r, ρ', σ')) : runA C f σ vs = some (r, σ'.take σ.length) := h.elim fun _ h => run_A hb h
theorem b_consE (h : ∃ ρ', P ρ' ∧ S ρ σ s = some (.next, ρ', σ')) (h2 : ∀ ρ', P ρ' → ∃ ρ'', body S t ρ' σ' = some (fl, ρ'', σ'')) : ∃ ρ'', body S (s :: t) ρ σ = some (fl, ρ'', σ'') := by
  obtain ⟨ρ', hP, e⟩ := h
  obtain ⟨ρ'', e2⟩ := h2 ρ' hP
  exact ⟨ρ'', b_cons e e2⟩
theorem b_consX {ρ' : Rho} (h : S ρ σ s = some (.next, ρ', σ')) (h2 : ∃ ρ'', body S t ρ' σ' = some (fl, ρ'', σ'')) : ∃ ρ'', body S (s :: t) ρ σ = some (fl, ρ'', σ'') := h2.imp fun _ => b_cons h
theorem b_retX (h : ∃ ρ', S ρ σ s = some (.ret v, ρ', σ')) : ∃ ρ'', body S (s :: t) ρ σ = some (.ret v, ρ'', σ') := h.imp fun _ => b_ret
noncomputable def endOf : Option V → Fl
  | some v => .ret v
  | none => .next
theorem forGo_find {α : Type} {F : Rho → Sto → Option (Fl × Rho × Sto)} {B : D → Rho → Option Rho} (g : α → D) (hit : α → Option V) : ∀ (l : List α), (∀ ρ x, P ρ → x ∈ l → ∃ ρ1 ρ2, B (g x) ρ = some ρ1 ∧ P ρ2 ∧ F ρ1 σ = some (endOf (hit x), ρ2, σ)) →
    ∀ ρ, P ρ → ∃ ρ', P ρ' ∧ forGo F B (l.map g) ρ σ = some (endOf (l.findSome? hit), ρ', σ)
  | [], _, ρ, hP => ⟨ρ, hP, rfl⟩
  | x :: l, h, ρ, hP => by
    obtain ⟨ρ1, ρ2, e1, hP2, e2⟩ := h ρ x hP List.mem_cons_self
    rw [List.map_cons, List.findSome?_cons]
    cases hx : hit x with
    | none =>
      rw [hx] at e2
      obtain ⟨ρ', hP', e3⟩ := forGo_find g hit l (fun ρ y hP hy => h ρ y hP (List.mem_cons_of_mem _ hy)) ρ2 hP2
      exact ⟨ρ', hP', bd e1 (bd e2 e3)⟩
    | some v => rw [hx] at e2; exact ⟨ρ2, hP2, bd e1 (bd e2 rfl)⟩
theorem s_find {α : Type} {mu : List Str} {sc : Sc} {tg iter : Expr} {l : List α} {bd : List Stmt} {p : Pos} {g : α → D} {hit : α → Option V} (h : (ev C n).e sc ρ σ iter = some v) (hi : items? σ v = some (l.map g)) (hc : ((targetNames tg).all (canStore sc) && still b v && decide ((l.map g).length ≤ lim)) = true)
    (hP : P ρ) (hf : ∀ ρ x, P ρ → x ∈ l → ∃ ρ1 ρ2, bindT tg (.p (g x)) ρ = some ρ1 ∧ P ρ2 ∧ body (ex C n mu b z k sc) bd ρ1 σ = some (endOf (hit x), ρ2, σ)) :
    ∃ ρ', P ρ' ∧ ex C n mu b z (k + 1) sc ρ σ (.For tg iter bd [] p) = some (endOf (l.findSome? hit), ρ', σ) := by
  obtain ⟨ρ', hP', e⟩ := forGo_find (F := fun ρ σ => body (ex C n mu b z k sc) bd ρ σ) (B := fun d ρ => bindT tg (.p d) ρ) g hit l hf ρ hP
  exact ⟨ρ', hP', s_for h hi hc e⟩
theorem s_find_none {α : Type} {mu : List Str} {sc : Sc} {tg iter : Expr} {l : List α} {bd : List Stmt} {p : Pos} {g : α → D} {hit : α → Option V} (h : (ev C n).e sc ρ σ iter = some v) (hi : items? σ v = some (l.map g)) (hc : ((targetNames tg).all (canStore sc) && still b v && decide ((l.map g).length ≤ lim)) = true)
    (hP : P ρ) (hf : ∀ ρ x, P ρ → x ∈ l → ∃ ρ1 ρ2, bindT tg (.p (g x)) ρ = some ρ1 ∧ P ρ2 ∧ body (ex C n mu b z k sc) bd ρ1 σ = some (endOf (hit x), ρ2, σ)) (he : l.findSome? hit = none) : ∃ ρ', P ρ' ∧ ex C n mu b z (k + 1) sc ρ σ (.For tg iter bd [] p) = some (.next, ρ', σ) := by
  have := s_find (p := p) h hi hc hP hf
  rw [he] at this; exact this
theorem s_find_some {α : Type} {mu : List Str} {sc : Sc} {tg iter : Expr} {l : List α} {bd : List Stmt} {p : Pos} {g : α → D} {hit : α → Option V} (h : (ev C n).e sc ρ σ iter = some v) (hi : items? σ v = some (l.map g)) (hc : ((targetNames tg).all (canStore sc) && still b v && decide ((l.map g).length ≤ lim)) = true)
    (hP : P ρ) (hf : ∀ ρ x, P ρ → x ∈ l → ∃ ρ1 ρ2, bindT tg (.p (g x)) ρ = some ρ1 ∧ P ρ2 ∧ body (ex C n mu b z k sc) bd ρ1 σ = some (endOf (hit x), ρ2, σ)) {r : V} (he : l.findSome? hit = some r) : ∃ ρ', ex C n mu b z (k + 1) sc ρ σ (.For tg iter bd [] p) = some (.ret r, ρ', σ) := by
  have := s_find (p := p) h hi hc hP hf
  rw [he] at this; exact this.imp fun _ h => h.2
end
noncomputable def okN (c : Nat) : Bool := (65 ≤ c && c ≤ 90) || c == 192 || (97 ≤ c && c ≤ 122) || c == 224
noncomputable def lw (c : Nat) : Nat := if 65 ≤ c && c ≤ 90 then c + 32 else if c == 192 then 224 else c
theorem lower_ok {c : Nat} (h : okN c = true) : lower1 [c] = some [lw c] := by
  show (if _ = true then _ else if _ = true then _ else if _ = true then _ else none) = _
  unfold lw
  split
  · rfl
  · split
    · rfl
    · rename_i h1 h2
      simp only [okN, Bool.or_eq_true] at h
      rw [if_pos]
      simp only [Bool.or_eq_true]
      rcases h with ((h | h) | h) | h
      · exact absurd h h1
      · exact absurd h h2
      · exact .inl h
      · exact .inr h
theorem lw_ok {c : Nat} (h : okN c = true) : okN (lw c) = true ∧ bad 1 (lw c) = false ∧ bad 1 c = false ∧ lw c < 256 ∧ c < 256 ∧ 13 < c ∧ 13 < lw c ∧ lw (lw c) = lw c := by
  have hc : c < 256 := by
    simp only [okN, Bool.or_eq_true, Bool.and_eq_true, decide_eq_true_eq, beq_iff_eq] at h; omega
  have := (by decide +kernel : ∀ c : Fin 256, okN c.1 = true → okN (lw c.1) = true ∧ bad 1 (lw c.1) = false ∧ bad 1 c.1 = false ∧ lw c.1 < 256 ∧ c.1 < 256 ∧ 13 < c.1 ∧ 13 < lw c.1 ∧ lw (lw c.1) = lw c.1)
  exact this ⟨c, hc⟩ h
theorem lower_meth (C : Ctx) (σ : Sto) {c : Nat} (h : okN c = true) : methV C σ "lower" (.p (.str [c])) [] = some (.p (.str [lw c])) := by
  exact or_l (bd rfl (gd (beq_self_eq_true ("lower" : Str)) (md (f := fun t => V.p (.str t)) (lower_ok h))))
theorem and3 {a b c : Bool} (x : a = true) (y : b = true) (z : c = true) : (a && b && c) = true := by rw [x, y, z]; rfl
theorem eq_str1 (σ : Sto) (a b : Nat) (ne : Bool) : eqOp σ ne (.p (.str [a])) (.p (.str [b])) = some ((a == b) != ne) := by
  show some (([a] == [b]) != ne) = _
  simp [List.cons_beq_cons]
abbrev Pr1 := Nat × List Nat
noncomputable def prD (x : Pr1) : D := .tuple [.str [x.1], .str x.2]
noncomputable def getS (t : Nat) (l : List Pr1) : Option V := l.findSome? fun x => if lw x.1 == t then some (.p (.str x.2)) else none
theorem meth_hdr (C : Ctx) (σ : Sto) (m : Str) (i : Nat) (args : List V) : methV C σ m (.hdr i) args = (C.meth m).bind fun f => f σ (.hdr i :: args) := by
  unfold methV; rfl
theorem cvt_meth1 {σ : Sto} {i : Nat} {s : List Nat} (h : s.any (bad 1) = false) (hl : s.length ≤ lim) : methV ctx1 σ "_convert_string_type" (.hdr i) [.p (.str s), .p (.bool true)] = some (.p (.str s)) := by
  rw [meth_hdr, show ctx1.meth "_convert_string_type" = some mCvt from by kernel_rfl]
  exact cvt_name σ (.hdr i) h hl
theorem get_spec {σ : Sto} {i : Nat} {l : List Pr1} (hσ : σ[i]? = some (l.map prD)) (hi : i < σ.length) (hl : l.length ≤ lim) (hn : ∀ x ∈ l, okN x.1 = true) {c : Nat} (hc : okN c = true) : mGet σ [.hdr i, .p (.str [c])] = some ((getS (lw c) l).getD (.p .none)) := by
  have hb : [lw c].any (bad 1) = false := by simp [(lw_ok hc).2.1]
  refine run_PE (σ' := σ) (ρ := [("self", .hdr i), ("name", .p (.str [c])), ("default", .p .none)]) rfl ?_
  refine b_consX (s_name rfl rfl rfl (e_methK rfl rfl (evs_c (fun _ _ h => by cases h) (e_meth rfl rfl rfl rfl (lower_meth _ _ hc)) rfl) rfl (cvt_meth1 hb (by simp [lim])))) ?_
  have hti : decide ((l.map prD).length ≤ lim) = true := by simpa using hl
  have hf : ∀ ρ x, (ρ = ([("self", .hdr i), ("name", .p (.str [lw c])), ("default", .p .none)] : Rho) ∨ ∃ u v, ρ = ([("self", .hdr i), ("name", .p (.str [lw c])), ("default", .p .none), ("k", u), ("v", v)] : Rho)) → x ∈ l → ∀ tg bd p q r p', 
      (mthAt 8).bd = [p, .For tg q bd [] r, p'] → ∃ ρ1 ρ2, bindT tg (.p (prD x)) ρ = some ρ1 ∧ (ρ2 = ([("self", .hdr i), ("name", .p (.str [lw c])), ("default", .p .none)] : Rho) ∨ ∃ u v, ρ2 = ([("self", .hdr i), ("name", .p (.str [lw c])), ("default", .p .none), ("k", u), ("v", v)] : Rho)) ∧
      body (ex ctx1 24 [] σ.length σ.length 7 (mthAt 8).sc) bd ρ1 σ = some (endOf (if lw x.1 == lw c then some (.p (.str x.2)) else none), ρ2, σ) := by
    intro ρ x hP hx tg bd p q r p' hbd
    cases hbd
    have e1 : ∀ tg' bd' q' r' s1 s3, (mthAt 8).bd = [s1, .For tg' q' bd' [] r', s3] → bindT tg' (.p (prD x)) ρ = some ([("self", .hdr i), ("name", .p (.str [lw c])), ("default", .p .none), ("k", .p (.str [x.1])), ("v", .p (.str x.2))] : Rho) := by
      intro tg' bd' q' r' s1 s3 h
      cases h
      rcases hP with rfl | ⟨u, v, rfl⟩ <;> rfl
    refine ⟨_, _, e1 _ _ _ _ _ _ rfl, .inr ⟨.p (.str [x.1]), .p (.str x.2), rfl⟩, ?_⟩
    have ht := eq_str1 σ (lw x.1) (lw c) false
    cases hx1 : lw x.1 == lw c with
    | true =>
      rw [hx1] at ht
      exact b_ret (s_if_t (t_cmp (e_meth rfl rfl rfl rfl (lower_meth _ _ (hn x hx))) rfl ht) (b_ret (s_ret rfl)))
    | false =>
      rw [hx1] at ht
      exact b_cons (s_if_f (t_cmp (e_meth rfl rfl rfl rfl (lower_meth _ _ (hn x hx))) rfl ht) b_nil) b_nil
  cases hg : getS (lw c) l with
  | none =>
    refine b_consE (P := fun ρ => ρ = ([("self", .hdr i), ("name", .p (.str [lw c])), ("default", .p .none)] : Rho) ∨ ∃ u v, ρ = ([("self", .hdr i), ("name", .p (.str [lw c])), ("default", .p .none), ("k", u), ("v", v)] : Rho)) (s_find_none (v := .own i) (g := prD) (hit := fun x => if lw x.1 == lw c then some (.p (.str x.2)) else none) rfl hσ (and3 rfl (decide_eq_true hi) hti) (.inl rfl) (fun ρ x hP hx => hf ρ x hP hx _ _ _ _ _ _ rfl) hg) fun ρ' hP => ?_
    refine ⟨ρ', b_ret (s_ret ?_)⟩
    rcases hP with rfl | ⟨u, v, rfl⟩ <;> rfl
  | some r =>
    exact b_retX (s_find_some (v := .own i) (g := prD) (P := fun ρ => ρ = ([("self", .hdr i), ("name", .p (.str [lw c])), ("default", .p .none)] : Rho) ∨ ∃ u v, ρ = ([("self", .hdr i), ("name", .p (.str [lw c])), ("default", .p .none), ("k", u), ("v", v)] : Rho)) (hit := fun x => if lw x.1 == lw c then some (.p (.str x.2)) else none) rfl hσ (and3 rfl (decide_eq_true hi) hti) (.inl rfl) (fun ρ x hP hx => hf ρ x hP hx _ _ _ _ _ _ rfl) hg)
-- E4
section
variable {C : Ctx} {n k : Nat} {mu : List Str} {b z : Nat} {sc : Sc} {ρ ρ' : Rho} {σ σ' : Sto} {v : V} {p q : Pos} {e : Expr}
theorem frz_hdr {i : Nat} (h : i < z) : frozen σ z (.hdr i) = .hdr i := by
  show (if z ≤ i then V.any else V.hdr i) = _
  rw [if_neg (by omega)]
theorem frz_own {i : Nat} (h : i < z) : frozen σ z (.own i) = .own i := by
  show (if z ≤ i then _ else V.own i) = _
  rw [if_neg (by omega)]
theorem frz_p {d : D} : frozen σ z (.p d) = .p d := rfl
theorem s_retP (hr : (ρ.map fun x => (x.1, frozen σ σ.length x.2)) = ρ') (h : (ev C n).e sc ρ' σ e = some v) : ex C n mu b σ.length (k + 1) sc ρ σ (.Return (some e) p) = some (.ret v, ρ, σ) :=
  s_ret (by rw [List.take_length, hr]; exact h)
theorem compGo_map {α : Type} {R : Rec} {t elt : Expr} {ifs : List Expr} {g : α → D} {keep : α → Bool} {f : α → D} : ∀ {l : List α}, (∀ d ∈ l, ∃ ρ', bindT t (.p (g d)) ρ = some ρ' ∧ ifsAll (R.t sc ρ' σ) ifs = some (keep d) ∧ (keep d = true → R.e sc ρ' σ elt = some (.p (f d)))) →
    compGo R sc σ t elt ifs ρ (l.map g) = some ((l.filter keep).map f)
  | [], _ => rfl
  | d :: l, h => by
    obtain ⟨ρ', h1, h2, h3⟩ := h d List.mem_cons_self
    have ih := compGo_map (l := l) fun d hd => h d (List.mem_cons_of_mem _ hd)
    rw [List.map_cons]
    refine bd h1 (bd h2 ?_)
    rw [List.filter_cons]
    cases hk : keep d with
    | false => exact ih
    | true => exact bd (h3 hk) (md ih)
theorem e_compM {α : Type} {t elt iter : Expr} {ifs : List Expr} {scope : Scope} {l : List α} {g : α → D} {keep : α → Bool} {f : α → D} (hv : (ev C n).e sc ρ σ iter = some v) (hi : items? σ v = some (l.map g)) (hk : (closOk scope sc ρ && scopeOk scope t && decide ((l.map g).length ≤ lim)) = true)
    (h : ∀ d ∈ l, ∃ ρ', bindT t (.p (g d)) (freeOf scope.names ρ) = some ρ' ∧ ifsAll ((ev C n).t scope.names ρ' σ) ifs = some (keep d) ∧ (keep d = true → (ev C n).e scope.names ρ' σ elt = some (.p (f d)))) :
    (ev C (n + 1)).e sc ρ σ (.ListComp elt [⟨t, iter, ifs, 0⟩] scope p) = some (.p (.list ((l.filter keep).map f))) := by
  exact bd hv (bd hi (gd hk (md (compGo_map h))))
theorem ifs1 {R : Expr → Option Bool} {e : Expr} {c : Bool} (h : R e = some c) : ifsAll R [e] = some c := bd h (by cases c <;> rfl)
end
theorem filter_tt {α : Type} (l : List α) : l.filter (fun _ => true) = l := by simp
theorem pick_at {α : Type} (l : List α) (a b : Nat) : (sliceRange a b 1).filterMap (fun k => l[k]?) = (l.drop a).take (b - a) := by
  have := pick_run l.toArray a (b - a)
  rw [← sliceRange_one] at this
  simpa using this
theorem pick_from {α : Type} (l : List α) (a : Nat) (ha : a ≤ l.length) : pick l (some a) none none = l.drop a := by
  have e : sliceBounds (some (a : Int)) none none l.length = ((a : Int), (l.length : Int), 1) := by
    simp only [sliceBounds, Option.getD_none]
    have h1 : ¬ ((a : Int) < 0) := by omega
    simp only [h1, if_false, show (1 : Int) > 0 by decide, if_true]
    congr 1
    omega
  unfold pick
  rw [e]
  show (sliceRange a l.length 1).filterMap _ = _
  rw [pick_at, List.take_of_length_le (by simp)]
theorem pick_upto {α : Type} (l : List α) (b : Nat) (hb : b ≤ l.length) : pick l none (some b) none = l.take b := by
  have e : sliceBounds none (some (b : Int)) none l.length = (((0 : Nat) : Int), (b : Int), 1) := by
    simp only [sliceBounds, Option.getD_none]
    have h2 : ¬ ((b : Int) < 0) := by omega
    simp only [h2, if_false, show (1 : Int) > 0 by decide, if_true]
    congr 1
    congr 1; omega
  unfold pick
  rw [e]
  show (sliceRange (0 : Nat) b 1).filterMap _ = _
  rw [pick_at]; simp
theorem pick_all {α : Type} (l : List α) : pick l none none none = l := by
  have e : sliceBounds none none none l.length = (((0 : Nat) : Int), (l.length : Int), 1) := by simp [sliceBounds]
  unfold pick
  rw [e]
  show (sliceRange (0 : Nat) l.length 1).filterMap _ = _
  rw [pick_at]; simp
theorem pick_run2 {α : Type} (l : List α) (a b : Nat) (hab : a ≤ b) (hb : b ≤ l.length) : pick l (some a) (some b) none = (l.drop a).take (b - a) := by
  have e : sliceBounds (some (a : Int)) (some (b : Int)) none l.length = ((a : Int), (b : Int), 1) := by
    simp only [sliceBounds, Option.getD_none]
    have h1 : ¬ ((a : Int) < 0) := by omega
    have h2 : ¬ ((b : Int) < 0) := by omega
    simp only [h1, h2, if_false, show (1 : Int) > 0 by decide, if_true]
    congr 1
    · omega
    · congr 1; omega
  unfold pick
  rw [e]
  exact pick_at l a b
section
variable {C : Ctx} {n : Nat} {sc : Sc} {ρ : Rho} {σ : Sto} {u v a b c : V} {p q : Pos} {o : Expr} {lo hi st : Option Expr} {x y z : Option Int}
noncomputable abbrev evO (C : Ctx) (n : Nat) (sc : Sc) (ρ : Rho) (σ : Sto) : Option Expr → Option V := optV (ev C n) sc ρ σ
theorem e_slice (ho : (ev C n).e sc ρ σ o = some u) (h1 : evO C n sc ρ σ lo = some a) (h2 : evO C n sc ρ σ hi = some b) (h3 : evO C n sc ρ σ st = some c) (g1 : part? a = some x) (g2 : part? b = some y) (g3 : part? c = some z) (h : sliced σ u x y z = some v) :
    (ev C (n + 1)).e sc ρ σ (.Subscript o (.Slice lo hi st q) p) = some v := by
  exact or_l (bd rfl (bd ho (bd h1 (bd h2 (bd h3 (bd g1 (bd g2 (bd g3 h))))))))
theorem sliced_own {i : Nat} {l : List D} (h : σ[i]? = some l) (hl : l.length ≤ lim) (hz : (z == some 0) = false) : sliced σ (.own i) x y z = some (.p (.list (pick l x y z))) := by
  exact bd h (gd (by rw [hz, decide_eq_true hl]; rfl) rfl)
theorem sliced_list {l : List D} (hl : l.length ≤ lim) (hz : (z == some 0) = false) : sliced σ (.p (.list l)) x y z = some (.p (.list (pick l x y z))) := by
  exact bd rfl (gd (by rw [hz, decide_eq_true hl]; rfl) rfl)
end
structure HdrAt (σ : Sto) (i : Nat) (l : List Pr1) : Prop where
  at_ : σ[i]? = some (l.map prD)
  len : l.length ≤ 100
  ok : ∀ x ∈ l, okN x.1 = true ∧ x.2.any (bad 2) = false ∧ x.2.length ≤ 1000 ∧ x.2.all (· < 256) = true
theorem HdrAt.lt {σ : Sto} {i : Nat} {l : List Pr1} (h : HdrAt σ i l) : i < σ.length := (List.getElem?_eq_some_iff.mp h.at_).1
theorem getS_str {t : Nat} {l : List Pr1} {r : V} (h : getS t l = some r) : ∃ s, r = .p (.str s) := by
  obtain ⟨x, _, h2⟩ := List.exists_of_findSome?_eq_some h
  split at h2
  · cases h2; exact ⟨_, rfl⟩
  · cases h2
section
variable {σ : Sto} {i : Nat} {l : List Pr1} {c : Nat}
theorem get_specH (H : HdrAt σ i l) (hc : okN c = true) : mGet σ [.hdr i, .p (.str [c])] = some ((getS (lw c) l).getD (.p .none)) :=
  get_spec H.at_ H.lt (by have := H.len; simp only [lim]; omega) (fun x hx => (H.ok x hx).1) hc
theorem get_meth2 (H : HdrAt σ i l) (hc : okN c = true) : methV ctx2 σ "get" (.hdr i) [.p (.str [c])] = some ((getS (lw c) l).getD (.p .none)) := by
  rw [meth_hdr, show ctx2.meth "get" = some mGet from by kernel_rfl]
  exact get_specH H hc
theorem getitem_spec (H : HdrAt σ i l) (hc : okN c = true) : mGetitem σ [.hdr i, .p (.str [c])] = some ((getS (lw c) l).getD (.p .none)) :=
  run_P (ρ' := [("self", .hdr i), ("name", .p (.str [c]))]) (σ' := σ) rfl (b_ret (s_retP (ρ' := [("self", .hdr i), ("name", .p (.str [c]))]) (by simp only [List.map, frz_hdr H.lt, frz_p]) (e_meth rfl rfl rfl rfl (get_meth2 H hc))))
theorem contains_spec (H : HdrAt σ i l) (hc : okN c = true) : mContains σ [.hdr i, .p (.str [c])] = some (.p (.bool (getS (lw c) l).isSome)) := by
  refine run_P (ρ' := [("self", .hdr i), ("name", .p (.str [c]))]) (σ' := σ) rfl (b_ret (s_retP (ρ' := [("self", .hdr i), ("name", .p (.str [c]))]) (by simp only [List.map, frz_hdr H.lt, frz_p]) (e_cmp (e_meth rfl rfl rfl rfl (get_meth2 H hc)) rfl ?_)))
  cases hg : getS (lw c) l with
  | none => rfl
  | some r => obtain ⟨s, rfl⟩ := getS_str hg; rfl
theorem keys_spec (H : HdrAt σ i l) : mKeys σ [.hdr i] = some (.p (.list (l.map fun x => .str [x.1]))) := by
  have hl : decide ((l.map prD).length ≤ lim) = true := decide_eq_true (by have := H.len; simp [lim]; omega)
  have := run_P (C := ctx0) (f := mthAt 9) (ρ := [("self", .hdr i)]) (ρ' := [("self", .hdr i)]) (σ' := σ) (vs := [.hdr i]) rfl (b_ret (s_retP (ρ' := [("self", .hdr i)]) (by simp only [List.map, frz_hdr H.lt, frz_p]) (e_compM (v := .own i) (g := prD) (l := l) (keep := fun _ => true) (f := fun x => .str [x.1]) rfl H.at_ (and3 rfl rfl hl) fun d hd => ⟨_, rfl, rfl, fun _ => rfl⟩)))
  rw [filter_tt] at this
  exact this
theorem items_spec (H : HdrAt σ i l) : mItems σ [.hdr i] = some (.p (.list (l.map prD))) :=
  run_P (ρ' := [("self", .hdr i)]) (σ' := σ) rfl (b_ret (s_retP (ρ' := [("self", .hdr i)]) (by simp only [List.map, frz_hdr H.lt, frz_p])
    (e_slice (u := .own i) (x := none) (y := none) (z := none) rfl rfl rfl rfl rfl rfl rfl (by rw [sliced_own H.at_ (by have := H.len; simp [lim]; omega) rfl, pick_all]))))
theorem len_spec (H : HdrAt σ i l) : mLen σ [.hdr i] = some (.p (.int l.length)) := by
  refine run_P (ρ' := [("self", .hdr i)]) (σ' := σ) rfl (b_ret (s_retP (ρ' := [("self", .hdr i)]) (by simp only [List.map, frz_hdr H.lt, frz_p]) (e_call (vs := [.own i]) rfl rfl rfl (evs_c (fun _ _ h => by cases h) rfl rfl) ?_)))
  have h1 : (l.map prD).length = l.length := List.length_map _
  exact (show lenV noM σ [.own i] = _ from bd rfl (bd H.at_ (gd (decide_eq_true (by have := H.len; rw [h1]; simp only [lim]; omega)) (by rw [h1]))))
end
end
section
open PySem
set_option autoImplicit false
set_option linter.unusedSimpArgs false
set_option maxRecDepth 100000
-- E5
theorem cmp_ne (C : Ctx) (σ : Sto) (a b : Nat) : cmpOp C σ .NotEq (.p (.str [a])) (.p (.str [b])) = some (a != b) := by
  have e : ∀ x y, cmpOp C σ .NotEq x y = eqOp σ true x y := fun _ _ => rfl
  rw [e, eq_str1]
  cases hx : a == b <;> simp [hx, bne]
theorem cmp_eq (C : Ctx) (σ : Sto) (a b : Nat) : cmpOp C σ .Eq (.p (.str [a])) (.p (.str [b])) = some (a == b) := by
  have e : ∀ x y, cmpOp C σ .Eq x y = eqOp σ false x y := fun _ _ => rfl
  rw [e, eq_str1]
  cases hx : a == b <;> simp [hx, bne]
theorem take_set (σ : Sto) (i : Nat) (l : List D) : (σ.set i l).take σ.length = σ.set i l := by
  have := List.take_length (l := σ.set i l)
  rwa [List.length_set] at this
noncomputable def delS (t : Nat) (l : List Pr1) : List Pr1 := l.filter fun x => lw x.1 != t
theorem HdrAt.set {σ : Sto} {i : Nat} {l l' : List Pr1} (H : HdrAt σ i l) (hl : l'.length ≤ 100) (ok : ∀ x ∈ l', okN x.1 = true ∧ x.2.any (bad 2) = false ∧ x.2.length ≤ 1000 ∧ x.2.all (· < 256) = true) : HdrAt (σ.set i (l'.map prD)) i l' :=
  ⟨by rw [List.getElem?_set_self H.lt], hl, ok⟩
theorem HdrAt.del {σ : Sto} {i : Nat} {l : List Pr1} (H : HdrAt σ i l) (t : Nat) : HdrAt (σ.set i ((delS t l).map prD)) i (delS t l) :=
  H.set (Nat.le_trans (List.length_filter_le _ _) H.len) fun x hx => H.ok x (List.mem_filter.mp hx).1
section
variable {σ : Sto} {i : Nat} {l : List Pr1} {c : Nat} {s : List Nat}
theorem cvt_val (σ : Sto) (u : V) {s : List Nat} (h : s.any (bad 2) = false) (hl : s.length ≤ lim) : mCvt σ [u, .p (.str s), .p (.bool false)] = some (.p (.str s)) :=
  run_P (ρ' := [("self", u), ("value", .p (.str s)), ("name", .p (.bool false)), ("regex", .pat 2)]) (σ' := σ) rfl (b_ret (s_if_t rfl (b_cons (s_name rfl rfl rfl rfl) (b_cons (s_if_f (t_call (e_meth rfl rfl rfl rfl (search_ok _ rfl h hl)) rfl) rfl) (b_ret (s_ret rfl))))))
theorem cvt_meth4 (σ : Sto) {i : Nat} {s : List Nat} (h : s.any (bad 1) = false) (hl : s.length ≤ lim) : methV ctx4 σ "_convert_string_type" (.hdr i) [.p (.str s), .p (.bool true)] = some (.p (.str s)) := by
  rw [meth_hdr, show ctx4.meth "_convert_string_type" = some mCvt from by kernel_rfl]
  exact cvt_name σ (.hdr i) h hl
theorem cvt_meth4v (σ : Sto) {i : Nat} {s : List Nat} (h : s.any (bad 2) = false) (hl : s.length ≤ lim) : methV ctx4 σ "_convert_string_type" (.hdr i) [.p (.str s), .p (.bool false)] = some (.p (.str s)) := by
  rw [meth_hdr, show ctx4.meth "_convert_string_type" = some mCvt from by kernel_rfl]
  exact cvt_val σ (.hdr i) h hl
theorem one_lim (c : Nat) : [c].length ≤ lim := by simp [lim]
theorem del_spec (H : HdrAt σ i l) (hc : okN c = true) : fDel σ i (.str [c]) = some (σ.set i ((delS (lw c) l).map prD)) := by
  have hb : [lw c].any (bad 1) = false := by simp [(lw_ok hc).2.1]
  have hl : decide ((l.map prD).length ≤ lim) = true := decide_eq_true (by have := H.len; simp [lim]; omega)
  have h1 : ((delS (lw c) l).map prD).length ≤ 1000 := by have := H.len; have := List.length_filter_le (fun x : Pr1 => lw x.1 != lw c) l; simp [delS]; omega
  have h2 : (l.map prD).length ≤ 1000 := by have := H.len; simp; omega
  have hrun : runA ctx1 (mthAt 4) σ [.hdr i, .p (.str [c])] = some (.p .none, (σ.set i ((delS (lw c) l).map prD)).take σ.length) := by
    refine run_A0 (ρ := [("self", .hdr i), ("name", .p (.str [c]))]) (ρ' := [("self", .hdr i), ("name", .p (.str [lw c]))]) rfl ?_
    refine b_cons (s_name rfl rfl rfl (e_methK rfl rfl (evs_c (fun _ _ h => by cases h) (e_meth rfl rfl rfl rfl (lower_meth _ _ hc)) rfl) rfl (cvt_meth1 hb (one_lim _)))) ?_
    refine b_cons (s_slice (j := i) rfl rfl (e_compM (v := .own i) (g := prD) (l := l) (keep := fun x => lw x.1 != lw c) (f := prD) rfl H.at_ (and3 rfl rfl hl) fun d hd => ⟨_, rfl, ?_, fun _ => rfl⟩) rfl h1 (Nat.zero_le _) H.at_ h2) b_nil
    refine ifs1 (t_cmp (e_meth rfl rfl rfl rfl (lower_meth _ _ (H.ok d hd).1)) rfl (cmp_ne _ _ _ _))
  unfold fDel
  rw [hrun]
  show some ((σ.set i _).take σ.length) = _
  rw [take_set]
theorem set_spec (H : HdrAt σ i l) (hc : okN c = true) (hs : s.any (bad 2) = false) (hs1 : s.length ≤ 1000) : fSet σ i (.str [c]) (.str s) = some (σ.set i ((delS (lw c) l ++ [(c, s)]).map prD)) := by
  have hb : [c].any (bad 1) = false := by simp [(lw_ok hc).2.2.1]
  have H' := H.del (lw c)
  have hrun : runA ctx4 (mthAt 3) σ [.hdr i, .p (.str [c]), .p (.str s)] = some (.p .none, ((σ.set i ((delS (lw c) l).map prD)).set i ((delS (lw c) l).map prD ++ [prD (c, s)])).take σ.length) := by
    refine run_A0 (ρ := [("self", .hdr i), ("name", .p (.str [c])), ("val", .p (.str s))]) (ρ' := [("self", .hdr i), ("name", .p (.str [c])), ("val", .p (.str s))]) rfl ?_
    refine b_cons (s_del rfl rfl (del_spec H hc)) ?_
    refine b_cons (s_append (j := i) rfl rfl rfl (d := prD (c, s)) (σ' := σ.set i ((delS (lw c) l).map prD)) ?_ (Nat.zero_le _) H'.at_ (by have := H'.len; simp [lim]; omega)) b_nil
    show ((ev ctx4 24).e _ _ _ _).map _ = _
    rw [e_tuple (vs := [.p (.str [c]), .p (.str s)]) rfl (evs_c (fun _ _ h => by cases h) (e_methK rfl rfl rfl rfl (cvt_meth4 _ hb (one_lim _))) (evs_c (fun _ _ h => by cases h) (e_methK rfl rfl rfl rfl (cvt_meth4v _ hs (by simp only [lim]; omega))) rfl)) rfl]
    rfl
  unfold fSet
  rw [hrun]
  show some (((σ.set i _).set i _).take σ.length) = _
  rw [List.set_set, take_set, List.map_append]
  rfl
end
-- E6
noncomputable def lineS (x : Pr1) : List Nat := [x.1] ++ [58, 32] ++ x.2
noncomputable def sendS (l : List Pr1) : List Nat := (l.map fun x => lineS x ++ [13, 10]).flatten ++ [13, 10]
theorem join_send : ∀ l : List Pr1, joinL [13, 10] (l.map lineS ++ [[], []]) = sendS l
  | [] => rfl
  | x :: l => by
    have ih := join_send l
    have : ∃ a b, l.map lineS ++ [[], []] = a :: b := by cases l <;> exact ⟨_, _, rfl⟩
    obtain ⟨a, b, e⟩ := this
    rw [List.map_cons, List.cons_append, e]
    rw [e] at ih
    show lineS x ++ [13, 10] ++ joinL [13, 10] (a :: b) = _
    rw [ih]
    simp [sendS, List.append_assoc]
theorem strs_map {α : Type} (g : α → List Nat) : ∀ l : List α, strs? (l.map fun x => .str (g x)) = some (l.map g)
  | [] => rfl
  | x :: l => by simp only [List.map_cons, strs?, strs_map g l]; rfl
theorem len_lines {l : List Pr1} (h : ∀ x ∈ l, x.2.length ≤ 1000) : ((l.map lineS).map List.length).sum ≤ 1003 * l.length := by
  induction l with
  | nil => simp
  | cons x l ih =>
    have h1 := h x List.mem_cons_self
    have h2 := ih fun y hy => h y (List.mem_cons_of_mem _ hy)
    simp only [List.map_cons, List.sum_cons, List.length_cons, lineS, List.length_append, List.length_nil]
    omega
theorem sendS_len {l : List Pr1} (h : ∀ x ∈ l, x.2.length ≤ 1000) : (sendS l).length ≤ 1005 * l.length + 2 := by
  induction l with
  | nil => simp [sendS]
  | cons x l ih =>
    have h1 := h x List.mem_cons_self
    have h2 := ih fun y hy => h y (List.mem_cons_of_mem _ hy)
    simp only [sendS, List.map_cons, List.flatten_cons, List.length_append, List.length_cons, List.length_nil, lineS] at h2 ⊢
    omega
theorem join_meth (C : Ctx) (σ : Sto) {sep : List Nat} {l : List D} {ss : List (List Nat)} (h : strs? l = some ss) (hl : (ss.map List.length).sum + ss.length * sep.length ≤ lim) : methV C σ "join" (.p (.str sep)) [.p (.list l)] = some (.p (.str (joinL sep ss))) := by
  exact or_l (bd rfl (or_l (gd (and_mk rfl (beq_self_eq_true ("join" : Str))) (bd rfl (bd h (gd (decide_eq_true hl) rfl))))))
noncomputable def lnsD (l : List Pr1) : List D := l.map fun x => D.str (lineS x)
noncomputable def lnsE (l : List Pr1) : List D := lnsD l ++ [D.str [], D.str []]
theorem strs_app : ∀ {a b : List D} {x y : List (List Nat)}, strs? a = some x → strs? b = some y → strs? (a ++ b) = some (x ++ y)
  | [], _, _, _, h, k => by cases h; exact k
  | _ :: _, _, _, _, h, k => bk h fun _ e1 h => mk' h fun _ e2 e3 => by subst e3; exact bd e1 (md (strs_app e2 k))
section
variable {σ : Sto} {i : Nat} {l : List Pr1}
theorem mod_ok (σ : Sto) (a b : List Nat) (ha : a.length ≤ 400000) (hb : b.length ≤ 400000) : binop σ .Mod (.p (.str twoS)) (.p (.tuple [.str a, .str b])) = some (.p (.str (a ++ [58, 32] ++ b))) := by
  show (if (twoS == twoS && decide (a.length ≤ 400000) && decide (b.length ≤ 400000)) = true then _ else _) = _
  rw [beq_self_eq_true, decide_eq_true ha, decide_eq_true hb]; rfl
theorem str_spec (H : HdrAt σ i l) : mStr σ [.hdr i] = some (.p (.str (sendS l))) := by
  have hl : decide ((l.map prD).length ≤ lim) = true := decide_eq_true (by have := H.len; simp [lim]; omega)
  have hlen := len_lines fun x hx => (H.ok x hx).2.2.1
  have hL := H.len
  have hjoin : methV ctx0 σ "join" (.p (.str [13, 10])) [.p (.list (lnsE l))] = some (.p (.str (sendS l))) := by
    have e2 : strs? (lnsE l) = some (l.map lineS ++ [[], []]) := strs_app (strs_map lineS l) rfl
    rw [join_meth ctx0 σ e2, join_send]
    simp only [List.map_append, List.sum_append, List.map_cons, List.map_nil, List.sum_cons, List.sum_nil, List.length_append, List.length_map, List.length_cons, List.length_nil, lim]
    omega
  have hadd : binop σ .Add (.p (.list (lnsD l))) (.p (.list [.str [], .str []])) = some (.p (.list (lnsE l))) := by
    show (if decide _ = true then _ else _) = _
    rw [if_pos (decide_eq_true (by simp [lim, lnsD]; omega))]; rfl
  refine run_P (ρ' := [("self", .hdr i)]) (σ' := σ) rfl (b_ret (s_retP (ρ' := [("self", .hdr i)]) (by simp only [List.map, frz_hdr H.lt, frz_p])
    (e_meth (u := .p (.str [13, 10])) (vs := [.p (.list (lnsE l))]) rfl rfl (evs_c (fun _ _ h => by cases h) (e_bin (u := .p (.list (lnsD l))) (w := .p (.list [.str [], .str []])) ?_ rfl hadd) rfl) rfl hjoin)))
  refine Eq.trans (e_compM (v := .own i) (g := prD) (l := l) (keep := fun _ => true) (f := fun x => .str (lineS x)) rfl H.at_ (and3 rfl rfl hl) fun d hd => ⟨_, rfl, rfl, fun _ => e_bin (u := .p (.str twoS)) (w := .p (prD d)) rfl rfl (mod_ok σ [d.1] d.2 (by simp) (by have := (H.ok d hd).2.2.1; omega))⟩) ?_
  rw [filter_tt]; rfl
theorem send_latin (H : HdrAt σ i l) : (sendS l).all (· < 256) = true := by
  unfold sendS
  rw [List.all_append, List.all_flatten, List.all_map]
  simp only [Bool.and_eq_true]
  refine ⟨List.all_eq_true.mpr fun x hx => ?_, rfl⟩
  have h1 := (lw_ok (H.ok x hx).1).2.2.2.2.1
  have h2 := (H.ok x hx).2.2.2
  simp only [Function.comp, lineS, List.all_append, List.all_cons, List.all_nil, Bool.and_true, Bool.and_eq_true, decide_eq_true_eq]
  exact ⟨⟨⟨h1, by decide, by decide⟩, h2⟩, by decide, by decide⟩
theorem bytes_spec (H : HdrAt σ i l) : mBytes σ [.hdr i] = some (.p (.bytes (sendS l))) := by
  have hs := sendS_len fun x hx => (H.ok x hx).2.2.1
  have hL := H.len
  have hstr : strV (look [("__str__", mStr)]) σ [.hdr i] = some (.p (.str (sendS l))) := by
    exact bd rfl (bd rfl (bd (show look [("__str__", mStr)] "__str__" = some mStr from by kernel_rfl) (bd (str_spec H) rfl)))
  refine run_P (ρ' := [("self", .hdr i)]) (σ' := σ) rfl (b_ret (s_retP (ρ' := [("self", .hdr i)]) (by simp only [List.map, frz_hdr H.lt, frz_p])
    (e_meth (u := .p (.str (sendS l))) (vs := [.p (.str latin)]) rfl (e_call (vs := [.hdr i]) rfl rfl rfl (evs_c (fun _ _ h => by cases h) rfl rfl) hstr) (evs_c (fun _ _ h => by cases h) rfl rfl) rfl ?_)))
  have h1 := send_latin H
  have e : (latin == latin && (sendS l).all (· < 256) && decide ((sendS l).length ≤ lim)) = true := by
    rw [beq_self_eq_true, h1, decide_eq_true (by simp only [lim]; omega)]; rfl
  have h2 : methStr σ "encode" (sendS l) [.p (.str latin)] = some (.p (.bytes (sendS l))) := by
    unfold methStr
    exact or_r (if_neg (by decide)) (gd (and_mk rfl (beq_self_eq_true ("encode" : Str))) (bd rfl (gd e rfl)))
  exact or_l (bd rfl h2)
end
-- E7
section
variable {σ : Sto} {i : Nat} {l : List Pr1} {c : Nat} {s : List Nat}
theorem mL_contains : ctxL.meth "__contains__" = some mContains := by kernel_rfl
theorem mL_getitem : ctxL.meth "__getitem__" = some mGetitem := by kernel_rfl
theorem g_contains (H : HdrAt σ i l) (hc : okN c = true) : gContains σ [.hdr i, .p (.str [c])] = some (.p (.bool (getS (lw c) l).isSome)) := by
  have hin : cmpOp ctxL σ .In (.p (.str [c])) (.hdr i) = some (getS (lw c) l).isSome := by
    have e : ∀ x y, cmpOp ctxL σ .In x y = inOp ctxL σ false x y := fun _ _ => rfl
    rw [e]
    refine or_l (bd rfl (bd rfl (bd mL_contains (bd (contains_spec H hc) ?_))))
    cases (getS (lw c) l).isSome <;> rfl
  exact run_P (ρ' := [("a", .hdr i), ("b", .p (.str [c]))]) (σ' := σ) rfl (b_ret (s_retP (ρ' := [("a", .hdr i), ("b", .p (.str [c]))]) (by simp only [List.map, frz_hdr H.lt, frz_p]) (e_cmp rfl rfl hin)))
theorem sub_hdr {C : Ctx} {r : V} {d : D} {f : Pr} (hm : C.meth "__getitem__" = some f) (h : f σ [.hdr i, .p d] = some r) : subV C σ (.hdr i) (.p d) = some r := by
  exact or_l (bd rfl (bd rfl (bd hm h)))
theorem g_getitem (H : HdrAt σ i l) (hc : okN c = true) : gGetitem σ [.hdr i, .p (.str [c])] = some ((getS (lw c) l).getD (.p .none)) :=
  run_P (ρ' := [("a", .hdr i), ("b", .p (.str [c]))]) (σ' := σ) rfl (b_ret (s_retP (ρ' := [("a", .hdr i), ("b", .p (.str [c]))]) (by simp only [List.map, frz_hdr H.lt, frz_p]) (e_sub (fun _ _ _ _ h => by cases h) rfl rfl (sub_hdr mL_getitem (getitem_spec H hc)))))
theorem a_delitem (H : HdrAt σ i l) (hc : okN c = true) : aDelitem σ [.hdr i, .p (.str [c])] = some (.p .none, σ.set i ((delS (lw c) l).map prD)) := by
  have := run_A0 (C := ctxL) (f := fnAt 10) (σ := σ) (vs := [.hdr i, .p (.str [c])]) (ρ := [("a", .hdr i), ("b", .p (.str [c]))]) rfl (b_cons (s_del rfl rfl (del_spec H hc)) b_nil)
  rw [take_set] at this
  exact this
theorem a_setitem (H : HdrAt σ i l) (hc : okN c = true) (hs : s.any (bad 2) = false) (hs1 : s.length ≤ 1000) : aSetitem σ [.hdr i, .p (.str [c]), .p (.str s)] = some (.p .none, σ.set i ((delS (lw c) l ++ [(c, s)]).map prD)) := by
  have := run_A0 (C := ctxL) (f := fnAt 12) (σ := σ) (vs := [.hdr i, .p (.str [c]), .p (.str s)]) (ρ := [("a", .hdr i), ("b", .p (.str [c])), ("c", .p (.str s))]) rfl (b_cons (s_setH rfl (fun _ _ _ _ h => by cases h) rfl rfl rfl rfl (set_spec H hc hs hs1)) b_nil)
  rw [take_set] at this
  exact this
theorem len_hdr (H : HdrAt σ i l) : lenV (look meths) σ [.hdr i] = some (.p (.int l.length)) := by
  have hL := H.len
  exact bd rfl (or_r rfl (or_l (bd rfl (bd (show look meths "__len__" = some mLen from by kernel_rfl) (bd (len_spec H) (bd rfl (gd (and_mk (decide_eq_true (by omega)) (decide_eq_true (by omega))) rfl)))))))
theorem g_hint (H : HdrAt σ i l) : gHint σ [.hdr i] = some (.p (.int l.length)) :=
  run_P (ρ' := [("obj", .hdr i), ("default", .p (.int 0))]) (σ' := σ) rfl (b_cons (s_if_f rfl rfl) (b_ret (s_try (b_ret (s_retP (ρ' := [("obj", .hdr i), ("default", .p (.int 0))]) (by simp only [List.map, frz_hdr H.lt, frz_p]) (e_call (vs := [.hdr i]) rfl rfl rfl (evs_c (fun _ _ h => by cases h) rfl rfl) (len_hdr H)))))))
end
section
variable (σ : Sto)
theorem g_not (a : Int) : gNot σ [.p (.int a)] = some (.p (.bool (!(!(a == 0))))) := run_P (ρ' := [("a", .p (.int a))]) (σ' := σ) rfl (b_ret (s_ret rfl))
theorem g_inv (a : Int) : gInv σ [.p (.int a)] = some (.p (.int (Builtin.bitNot a))) := run_P (ρ' := [("a", .p (.int a))]) (σ' := σ) rfl (b_ret (s_ret rfl))
theorem g_iand (a b : Int) : gIand σ [.p (.int a), .p (.int b)] = some (.p (.int (Builtin.bitAnd a b))) := run_P (ρ' := [("a", .p (.int (Builtin.bitAnd a b))), ("b", .p (.int b))]) (σ' := σ) rfl (b_cons rfl (b_ret (s_ret rfl)))
theorem g_ior (a b : Int) : gIor σ [.p (.int a), .p (.int b)] = some (.p (.int (Builtin.bitOr a b))) := run_P (ρ' := [("a", .p (.int (Builtin.bitOr a b))), ("b", .p (.int b))]) (σ' := σ) rfl (b_cons rfl (b_ret (s_ret rfl)))
noncomputable def parseS (b : List Nat) : List D := match flagsIn b with
  | some g => (splitWs (g.length + 1) g).map .bytes
  | none => []
theorem split_len : ∀ n t, (splitWs n t).length ≤ n
  | 0, _ => by simp [splitWs]
  | n + 1, t => by
    show (List.length (match t.dropWhile isWs with | [] => [] | c :: r => _)) ≤ _
    cases t.dropWhile isWs with
    | nil => exact Nat.zero_le _
    | cons c r => exact Nat.succ_le_succ (split_len n _)
theorem flagsAt_len {b g : List Nat} (h : flagsAt b = some g) : g.length ≤ b.length := by
  refine gk h fun _ h => ?_
  cases Option.some.inj h
  exact Nat.le_trans (List.takeWhile_sublist _).length_le (List.drop_sublist _ _).length_le
theorem flagsIn_len : ∀ {b g : List Nat}, flagsIn b = some g → g.length ≤ b.length
  | [], _, h => by cases h
  | c :: r, g, h => by
    unfold flagsIn at h
    cases h1 : (if c == 10 then none else flagsIn r) with
    | none =>
      rw [h1, Option.none_or] at h
      exact flagsAt_len h
    | some g' =>
      rw [h1, Option.some_or] at h
      cases h
      split at h1
      · cases h1
      · have := flagsIn_len h1
        simp only [List.length_cons]; omega
theorem g_parse {b : List Nat} (hb : b.length < lim) : gParse σ [.p (.bytes b)] = some (.p (.tuple (parseS b))) := by
  have hm : methV ctxL σ "match" (.pat 0) [.p (.bytes b)] = some (match flagsIn b with | some g => .mat g | none => .p .none) := by
    have e : ((0 : Nat) == 0 && ("match" : Str) == "match" && decide (b.length ≤ lim)) = true := by rw [beq_self_eq_true, decide_eq_true (Nat.le_of_lt hb)]; rfl
    refine bd rfl (or_l (bd rfl (gd e ?_)))
    cases flagsIn b <;> rfl
  unfold parseS
  cases hf : flagsIn b with
  | none =>
    rw [hf] at hm
    exact run_P (ρ' := [("resp", .p (.bytes b)), ("mo", .p .none)]) (σ' := σ) rfl (b_cons (s_name rfl rfl rfl (e_meth rfl rfl rfl rfl hm)) (b_ret (s_if_t rfl (b_ret (s_ret rfl)))))
  | some g =>
    rw [hf] at hm
    have hg := flagsIn_len hf
    have hs := split_len (g.length + 1) g
    have hsp : methV ctxL σ "split" (.p (.bytes g)) [] = some (.p (.list ((splitWs (g.length + 1) g).map .bytes))) := by
      exact bd rfl (gd (and_mk (beq_self_eq_true ("split" : Str)) (decide_eq_true (by omega))) rfl)
    refine run_P (ρ' := [("resp", .p (.bytes b)), ("mo", .mat g)]) (σ' := σ) rfl (b_cons (s_name rfl rfl rfl (e_meth rfl rfl rfl rfl hm)) (b_cons (s_if_f rfl b_nil) (b_ret (s_retP (ρ' := [("resp", .p (.bytes b)), ("mo", .mat g)]) rfl (e_call (vs := [.p (.list ((splitWs (g.length + 1) g).map .bytes))]) rfl rfl rfl (evs_c (fun _ _ h => by cases h) (e_meth (vs := []) rfl (u := .p (.bytes g)) ?_ rfl rfl hsp) rfl) ?_)))))
    · exact e_meth (u := .mat g) (vs := [.p (.str flagsName)]) rfl rfl (evs_c (fun _ _ h => by cases h) rfl rfl) rfl rfl
    · show (if _ then _ else _) = _
      rw [if_pos (decide_eq_true (by simp only [List.length_map]; omega))]
end
-- E8
theorem irun {σ : Sto} {i : Nat} {l : List Pr1} (H : HdrAt σ i l) : iRun σ i = true := by
  have hti : decide ((l.map prD).length ≤ lim) = true := decide_eq_true (by have := H.len; simp [lim]; omega)
  have key : ∃ ρ', body (ex ctx1 fuelE [] σ.length σ.length fuelS (mthAt 0).sc) ((mthAt 0).bd.drop 3) [("self", .hdr i), ("headers", .own i)] σ = some (.next, ρ', σ) := by
    suffices h : ∃ ρ', (ρ' = ([("self", .hdr i), ("headers", .own i)] : Rho) ∨ ∃ u v, ρ' = ([("self", .hdr i), ("headers", .own i), ("k", u), ("v", v)] : Rho)) ∧ _ from h.elim fun ρ' h => ⟨ρ', b_cons (s_if_t rfl (b_cons h.2 b_nil)) b_nil⟩
    refine s_find_none (v := .own i) (g := prD) (hit := fun _ => none) rfl H.at_ (and3 rfl (decide_eq_true H.lt) hti) (.inl rfl) (fun ρ x hP hx => ?_) (by simp)
    have hk := H.ok x hx
    have h1 : [x.1].any (bad 1) = false := by simp [(lw_ok hk.1).2.2.1]
    refine ⟨[("self", .hdr i), ("headers", .own i), ("k", .p (.str [x.1])), ("v", .p (.str x.2))], [("self", .hdr i), ("headers", .own i), ("k", .p (.str [x.1])), ("v", .p (.str x.2))], ?_, .inr ⟨_, _, rfl⟩, ?_⟩
    · rcases hP with rfl | ⟨u, v, rfl⟩ <;> rfl
    · have e2 : methV ctx1 σ "_convert_string_type" (.hdr i) [.p (.str x.2), .p (.bool false)] = some (.p (.str x.2)) := by
        rw [meth_hdr, show ctx1.meth "_convert_string_type" = some mCvt from by kernel_rfl]
        exact cvt_val σ (.hdr i) hk.2.1 (by have := hk.2.2.1; simp only [lim]; omega)
      exact b_cons (s_kw (e_methK rfl rfl rfl rfl (cvt_meth1 h1 (one_lim _)))) (b_cons (s_kw (e_methK rfl rfl rfl rfl e2)) b_nil)
  obtain ⟨ρ', e⟩ := key
  unfold iRun
  rw [e]; rfl
theorem headers_ok {σ : Sto} {i : Nat} {l : List Pr1} (H : HdrAt σ i l) : headersV σ [.own i] = some (.hdr i) := by
  exact bd rfl (bd rfl (gd (irun H) rfl))
noncomputable def nmS : List (List Nat) := [[112, 113, 224, 98, 99, 100, 101, 102], [80, 81, 192, 66, 67, 68, 69, 70]]
noncomputable def nm (r g : Nat) : Nat := (nmS.getD g []).getD r 0
theorem nm_ok : ∀ r < 8, ∀ g < 2, okN (nm r g) = true ∧ lw (nm r g) = nm r 0 ∧ nm r g < 256 := by decide +kernel
theorem nm_inj : ∀ r < 8, ∀ r' < 8, nm r 0 = nm r' 0 → r = r' := by decide +kernel
noncomputable def W (m : Nat) : List Nat := (List.range 4).filter fun i => m.testBit i
noncomputable def code (m : Nat) : Nat := ((W m).map fun i => 8 ^ i).sum
noncomputable def word (m : Nat) : List Nat := ([256, 16, 1].filter fun s => decide (s ≤ code m)).map fun s => 65 + code m / s % 16
noncomputable def iL (l : List Nat) : List D := l.map fun (i : Nat) => D.int i
theorem word_ok : ∀ m < 16, (word m).all (fun c => decide (65 ≤ c) && decide (c < 81)) = true ∧ (word m).length ≤ 3 := by decide +kernel
section
variable (σ : Sto)
theorem f_name : ∀ r < 8, ∀ g < 2, gName σ [.p (.int (r : Nat)), .p (.int (g : Nat))] = some (.p (.str [nm r g])) := by
  apply all8 <;> apply all2 <;> kernel_rfl
theorem f_other : ∀ r < 8, 2 ≤ r → ∀ g < 2, gOther σ [.p (.str [nm r g])] = some (.p (.str [nm r (1 - g)])) := by
  apply all8 <;> intro h <;> first | exact absurd h (by decide) | (apply all2 <;> kernel_rfl)
theorem f_told : ∀ m < 16, gTold σ [.p (.list (iL (W m)))] = some (.p (.str (word m))) := by
  apply all16 <;> kernel_rfl
theorem f_word : ∀ m < 16, gWord σ [.p (.list (iL (W m)))] = some (.p (.str (word m))) := by
  apply all16 <;> kernel_rfl
theorem f_number : ∀ m < 16, gNumber σ [.p (.str (word m))] = some (.p (.int (code m : Nat))) := by
  apply all16 <;> kernel_rfl
theorem f_int2ap : ∀ m < 16, gInt2AP σ [.p (.int (-(code m : Nat)))] = some (.p (.bytes (word m))) := by
  apply all16 <;> kernel_rfl
end
-- E9
theorem join_one : ∀ b : List Nat, joinL [] (b.map fun c => [c]) = b
  | [] => rfl
  | [c] => rfl
  | c :: d :: r => by
    show [c] ++ [] ++ joinL [] ((d :: r).map fun c => [c]) = _
    rw [join_one (d :: r)]; rfl
theorem s_retQ {C : Ctx} {n k : Nat} {mu : List Str} {b : Nat} {sc : Sc} {ρ ρ1 : Rho} {σ : Sto} {v : V} {p : Pos} {e : Expr} (e0 : ρ = ρ1) (hr : (ρ1.map fun x => (x.1, frozen σ σ.length x.2)) = ρ1) (h : (ev C n).e sc ρ1 σ e = some v) : ex C n mu b σ.length (k + 1) sc ρ σ (.Return (some e) p) = some (.ret v, ρ, σ) := by
  subst e0; exact s_retP hr h
theorem ones_sum : ∀ b : List Nat, (b.map fun _ => 1).sum = b.length
  | [] => rfl
  | c :: b => by rw [List.map_cons, List.sum_cons, ones_sum b, List.length_cons]; omega
theorem f_text (σ : Sto) {b : List Nat} (h : b.all (· < 256) = true) (hl : b.length ≤ 1000) : gText σ [.p (.bytes b)] = some (.p (.str b)) := by
  have hti : decide ((b.map fun c : Nat => D.int (Int.ofNat c)).length ≤ lim) = true := decide_eq_true (by simp [lim]; omega)
  refine run_P (ρ' := [("octets", .p (.bytes b))]) (σ' := σ) rfl (b_ret (s_retP (ρ' := [("octets", .p (.bytes b))]) rfl (e_if_t rfl (e_meth (u := .p (.str [])) (vs := [.p (.list (b.map fun c => D.str [c]))]) rfl rfl (evs_c (fun _ _ h => by cases h) ?_ rfl) rfl (Eq.trans (join_meth _ σ (strs_map (fun c : Nat => [c]) b) ?_) (by rw [join_one]))))))
  · refine Eq.trans (e_compM (v := .p (.bytes b)) (g := fun c : Nat => D.int (Int.ofNat c)) (l := b) (keep := fun _ => true) (f := fun c => D.str [c]) rfl rfl (and3 rfl rfl hti) fun c hc => ⟨_, rfl, rfl, fun _ => e_call (vs := [.p (.int (Int.ofNat c))]) rfl rfl rfl rfl ?_⟩) (by rw [filter_tt])
    have hc := List.all_eq_true.mp h c hc
    simp only [decide_eq_true_eq] at hc
    exact bd rfl (bd rfl (gd (and_mk (decide_eq_true (by simp only [Int.ofNat_eq_natCast]; omega)) (decide_eq_true (by simp only [Int.ofNat_eq_natCast]; omega))) rfl))
  · simp only [List.map_map, List.length_map, List.length_nil, Nat.mul_zero, lim]
    rw [show (List.length ∘ fun c : Nat => [c]) = fun _ => 1 from rfl]
    rw [ones_sum]; omega
section
variable {S : Rho → Sto → Option (Fl × Rho × Sto)} {B : D → Rho → Option Rho} {ρ ρ1 ρ2 : Rho} {σ σ2 : Sto} {d : D} {r : List D} {x : Option (Fl × Rho × Sto)}
theorem f_next (h1 : B d ρ = some ρ1) (h2 : S ρ1 σ = some (.next, ρ2, σ2)) (h3 : forGo S B r ρ2 σ2 = x) : forGo S B (d :: r) ρ σ = x := bd h1 (bd h2 h3)
theorem f_nil : forGo S B [] ρ σ = some (.next, ρ, σ) := rfl
end
theorem and_code : ∀ a < 16, ∀ b < 16, Builtin.bitAnd (code a : Nat) (code b : Nat) = (code (a &&& b) : Nat) := by decide +kernel
theorem or_code : ∀ a < 16, ∀ b < 16, Builtin.bitOr (code a : Nat) (code b : Nat) = (code (a ||| b) : Nat) := by decide +kernel
theorem diff_code : ∀ a < 16, ∀ b < 16, Builtin.bitAnd (code a : Nat) (Builtin.bitNot (code b : Nat)) = (code (a &&& (15 ^^^ b)) : Nat) := by decide +kernel
theorem code_zero : ∀ a < 16, ((code a : Nat) == (0 : Int)) = (a == 0) := by decide +kernel
theorem and_lt : ∀ a < 16, ∀ b < 16, a &&& b < 16 := by decide +kernel
theorem or_lt : ∀ a < 16, ∀ b < 16, a ||| b < 16 := by decide +kernel
theorem diff_lt : ∀ a < 16, ∀ b < 16, a &&& (15 ^^^ b) < 16 := by decide +kernel
noncomputable def bT : List Nat := [116, 104, 101, 110]
noncomputable def bA : List Nat := [97, 110, 100]
noncomputable def bO : List Nat := [111, 114]
noncomputable def bN : List Nat := [110, 111, 116]
noncomputable def zeros (l0 l1 l2 l3 : Nat) : Nat := (if l0 == 0 then 1 else 0) + (if l1 == 0 then 2 else 0) + (if l2 == 0 then 4 else 0) + (if l3 == 0 then 8 else 0)
section
variable {σ : Sto} {i : Nat} {l : List Pr1} {n1 n2 m1 m2 c0 c1 c2 c3 : Nat}
structure Tells (l : List Pr1) (t m : Nat) : Prop where
  ok : okN t = true
  lt : m < 16
  get : getS (lw t) l = some (.p (.str (word m)))
theorem g_tells (H : HdrAt σ i l) {t m : Nat} (T : Tells l t m) : gGetitem σ [.hdr i, .p (.str [t])] = some (.p (.str (word m))) := by
  rw [g_getitem H T.ok, T.get]; rfl
theorem f_text1 (σ : Sto) {t : Nat} (h : okN t = true) : gText σ [.p (.bytes [t])] = some (.p (.str [t])) := f_text σ (by simp [(lw_ok h).2.2.2.2.1]) (by simp)
theorem nost {e : Expr} {x : Str} {p : Pos} (h : e = .Name x p) : ∀ a b, e ≠ .Starred a b := fun _ _ q => by rw [h] at q; cases q
theorem deed_and (H : HdrAt σ i l) (T1 : Tells l n1 m1) (T2 : Tells l n2 m2) (cones : List D) : gDeed σ [.p (.tuple [.bytes bA, .bytes [n1], .bytes [n2]]), .hdr i, .p (.list cones)] = some (.p (.int (code (m1 &&& m2) : Nat))) := by
  refine run_P (σ' := σ) (ρ' := ([("told", .p (.tuple [.bytes bA, .bytes [n1], .bytes [n2]])), ("book", .hdr i), ("cones", .p (.list cones)), ("first", .p (.int (code m1 : Nat))), ("last", .p (.int (code m2 : Nat)))] : Rho)) rfl ?_
  refine b_cons (s_name rfl rfl rfl (e_call (vs := [.p (.str (word m1))]) rfl rfl rfl (evs_c (fun _ _ h => nomatch h) (e_call (vs := [.hdr i, .p (.str [n1])]) rfl rfl rfl (evs_c (fun _ _ h => nomatch h) rfl (evs_c (fun _ _ h => nomatch h) (e_call (vs := [.p (.bytes [n1])]) rfl rfl rfl (evs_c (fun _ _ h => nomatch h) rfl rfl) (f_text1 σ T1.ok)) rfl)) (g_tells H T1)) rfl) (f_number σ m1 T1.lt))) ?_
  refine b_cons (s_name rfl rfl rfl (e_call (vs := [.p (.str (word m2))]) rfl rfl rfl (evs_c (fun _ _ h => nomatch h) (e_call (vs := [.hdr i, .p (.str [n2])]) rfl rfl rfl (evs_c (fun _ _ h => nomatch h) rfl (evs_c (fun _ _ h => nomatch h) (e_call (vs := [.p (.bytes [n2])]) rfl rfl rfl (evs_c (fun _ _ h => nomatch h) rfl rfl) (f_text1 σ T2.ok)) rfl)) (g_tells H T2)) rfl) (f_number σ m2 T2.lt))) ?_
  skip
  refine b_ret (s_if_t rfl (b_ret (s_retQ (ρ1 := ([("told", .p (.tuple [.bytes bA, .bytes [n1], .bytes [n2]])), ("book", .hdr i), ("cones", .p (.list cones)), ("first", .p (.int (code m1 : Nat))), ("last", .p (.int (code m2 : Nat)))] : Rho)) rfl (by simp only [List.map, frz_hdr H.lt, frz_p]) (e_call (vs := [.p (.int (code m1 : Nat)), .p (.int (code m2 : Nat))]) rfl rfl rfl rfl ?_))))
  rw [g_iand, and_code m1 T1.lt m2 T2.lt]
theorem deed_or (H : HdrAt σ i l) (T1 : Tells l n1 m1) (T2 : Tells l n2 m2) (cones : List D) : gDeed σ [.p (.tuple [.bytes bO, .bytes [n1], .bytes [n2]]), .hdr i, .p (.list cones)] = some (.p (.int (code (m1 ||| m2) : Nat))) := by
  refine run_P (σ' := σ) (ρ' := ([("told", .p (.tuple [.bytes bO, .bytes [n1], .bytes [n2]])), ("book", .hdr i), ("cones", .p (.list cones)), ("first", .p (.int (code m1 : Nat))), ("last", .p (.int (code m2 : Nat)))] : Rho)) rfl ?_
  refine b_cons (s_name rfl rfl rfl (e_call (vs := [.p (.str (word m1))]) rfl rfl rfl (evs_c (fun _ _ h => nomatch h) (e_call (vs := [.hdr i, .p (.str [n1])]) rfl rfl rfl (evs_c (fun _ _ h => nomatch h) rfl (evs_c (fun _ _ h => nomatch h) (e_call (vs := [.p (.bytes [n1])]) rfl rfl rfl (evs_c (fun _ _ h => nomatch h) rfl rfl) (f_text1 σ T1.ok)) rfl)) (g_tells H T1)) rfl) (f_number σ m1 T1.lt))) ?_
  refine b_cons (s_name rfl rfl rfl (e_call (vs := [.p (.str (word m2))]) rfl rfl rfl (evs_c (fun _ _ h => nomatch h) (e_call (vs := [.hdr i, .p (.str [n2])]) rfl rfl rfl (evs_c (fun _ _ h => nomatch h) rfl (evs_c (fun _ _ h => nomatch h) (e_call (vs := [.p (.bytes [n2])]) rfl rfl rfl (evs_c (fun _ _ h => nomatch h) rfl rfl) (f_text1 σ T2.ok)) rfl)) (g_tells H T2)) rfl) (f_number σ m2 T2.lt))) ?_
  refine b_cons (s_if_f rfl b_nil) ?_
  refine b_ret (s_if_t rfl (b_ret (s_retQ (ρ1 := ([("told", .p (.tuple [.bytes bO, .bytes [n1], .bytes [n2]])), ("book", .hdr i), ("cones", .p (.list cones)), ("first", .p (.int (code m1 : Nat))), ("last", .p (.int (code m2 : Nat)))] : Rho)) rfl (by simp only [List.map, frz_hdr H.lt, frz_p]) (e_call (vs := [.p (.int (code m1 : Nat)), .p (.int (code m2 : Nat))]) rfl rfl rfl rfl ?_))))
  rw [g_ior, or_code m1 T1.lt m2 T2.lt]
noncomputable def cOf (c0 c1 c2 c3 : Nat) : Nat → Nat
  | 0 => c0
  | 1 => c1
  | 2 => c2
  | _ => c3
theorem lt4 {P : Nat → Prop} (h0 : P 0) (h1 : P 1) (h2 : P 2) (h3 : P 3) {j : Nat} (h : j < 4) : P j := by
  match j, h with
  | 0, _ => exact h0
  | 1, _ => exact h1
  | 2, _ => exact h2
  | 3, _ => exact h3
set_option backward.match.sparseCases false in
noncomputable def forBd : Stmt → List Stmt
  | .For _ _ b _ _ => b
  | _ => []
noncomputable def dLoop : List Stmt := forBd ((fnAt 34).bd.getD 5 (.Pass ⟨0, 0, 0, 0⟩))
noncomputable def dSt (k : Nat) : Stmt := dLoop.getD k (.Pass ⟨0, 0, 0, 0⟩)
noncomputable def cL (c0 c1 c2 c3 : Nat) : List D := [.int (code c0 : Nat), .int (code c1 : Nat), .int (code c2 : Nat), .int (code c3 : Nat)]
noncomputable def rDd (x : D) (i c0 c1 c2 c3 m1 m2 : Nat) (w : Int) (k : Nat) : Rho := [("told", .p x), ("book", .hdr i), ("cones", .p (.list (cL c0 c1 c2 c3))), ("first", .p (.int (code m1 : Nat))), ("last", .p (.int (code m2 : Nat))), ("whole", .p (.int w)), ("place", .p (.int (k : Nat)))]
noncomputable def rL (x : D) (i c0 c1 c2 c3 m1 m2 : Nat) (w : Int) (k : Nat) (v : V) : Rho := [("told", .p x), ("book", .hdr i), ("cones", .p (.list (cL c0 c1 c2 c3))), ("first", .p (.int (code m1 : Nat))), ("last", .p (.int (code m2 : Nat))), ("whole", .p (.int w)), ("place", .p (.int (k : Nat))), ("lacking", v)]
noncomputable def wN (b : Bool) (w : Int) (k : Nat) : Int := bif b then Builtin.bitOr w (8 ^ k) else w
theorem wN_zeros : ∀ b0 b1 b2 b3 : Bool, wN b3 (wN b2 (wN b1 (wN b0 0 0) 1) 2) 3 = (code ((if b0 then 1 else 0) + (if b1 then 2 else 0) + (if b2 then 4 else 0) + (if b3 then 8 else 0)) : Nat) := by decide +kernel
theorem g_lsh (σ : Sto) {k : Nat} (h : k < 4) : gLsh σ [.p (.int 1), .p (.int (3 * (k : Nat)))] = some (.p (.int (8 ^ k))) :=
  lt4 (P := fun k => gLsh σ [.p (.int 1), .p (.int (3 * (k : Nat)))] = some (.p (.int (8 ^ k)))) (by kernel_rfl) (by kernel_rfl) (by kernel_rfl) (by kernel_rfl) h
theorem at_cone (σ : Sto) {k : Nat} (h : k < 4) : subV (cA fn3) σ (.p (.list (cL c0 c1 c2 c3))) (.p (.int (k : Nat))) = some (.p (.int (code (cOf c0 c1 c2 c3 k) : Nat))) :=
  lt4 (P := fun k => subV (cA fn3) σ (.p (.list (cL c0 c1 c2 c3))) (.p (.int (k : Nat))) = some (.p (.int (code (cOf c0 c1 c2 c3 k) : Nat)))) (by kernel_rfl) (by kernel_rfl) (by kernel_rfl) (by kernel_rfl) h
noncomputable abbrev exD (σ : Sto) := ex (cA fn3) 24 [] σ.length σ.length 7 (fnAt 34).sc
section
variable {x : D} {w : Int} {k c L : Nat} {ρ : Rho} {v : V}
theorem it_a (hk : k < 4) (hc : cOf c0 c1 c2 c3 k < 16) (h1 : m1 < 16) (hρ : ρ = rDd x i c0 c1 c2 c3 m1 m2 w k ∨ ∃ v, ρ = rL x i c0 c1 c2 c3 m1 m2 w k v) : exD σ ρ σ (dSt 0) = some (.next, rL x i c0 c1 c2 c3 m1 m2 w k (.p (.int (code (cOf c0 c1 c2 c3 k &&& m1) : Nat))), σ) := by
  have e1 : gIand σ [.p (.int (code (cOf c0 c1 c2 c3 k) : Nat)), .p (.int (code m1 : Nat))] = some (.p (.int (code (cOf c0 c1 c2 c3 k &&& m1) : Nat))) := (g_iand _ _ _).trans (by rw [and_code _ hc _ h1])
  rcases hρ with rfl | ⟨v, rfl⟩
  · exact s_name rfl rfl rfl (e_call rfl rfl rfl (evs_c (fun _ _ h => nomatch h) (e_sub (fun _ _ _ _ h => nomatch h) rfl rfl (at_cone σ hk)) (evs_c (fun _ _ h => nomatch h) rfl rfl)) e1)
  · exact s_name rfl rfl rfl (e_call rfl rfl rfl (evs_c (fun _ _ h => nomatch h) (e_sub (fun _ _ _ _ h => nomatch h) rfl rfl (at_cone σ hk)) (evs_c (fun _ _ h => nomatch h) rfl rfl)) e1)
theorem it_c (hk : k < 4) (hL : L < 16) : exD σ (rL x i c0 c1 c2 c3 m1 m2 w k (.p (.int (code L : Nat)))) σ (dSt 2) = some (.next, rL x i c0 c1 c2 c3 m1 m2 (wN (L == 0) w k) k (.p (.int (code L : Nat))), σ) := by
  have e3 : gNot σ [.p (.int (code L : Nat))] = some (.p (.bool (L == 0))) := (g_not _ _).trans (by rw [code_zero _ hL, Bool.not_not])
  revert e3
  cases L == 0 with
  | true => exact fun e3 => s_if_t (t_cmp (e_call rfl rfl rfl (evs_c (fun _ _ h => nomatch h) rfl rfl) e3) rfl rfl) (b_cons (s_name rfl rfl rfl (e_call rfl rfl rfl (evs_c (fun _ _ h => nomatch h) rfl (evs_c (fun _ _ h => nomatch h) (e_call rfl rfl rfl (evs_c (fun _ _ h => nomatch h) rfl (evs_c (fun _ _ h => nomatch h) rfl rfl)) (g_lsh σ hk)) rfl)) (g_ior σ w _))) b_nil)
  | false => exact fun e3 => s_if_f (t_cmp (e_call rfl rfl rfl (evs_c (fun _ _ h => nomatch h) rfl rfl) e3) rfl rfl) b_nil
theorem it_b (h2 : m2 < 16) (hL : L < 16) : exD σ (rL (.tuple [.bytes bT, .bytes [n1], .bytes [n2]]) i c0 c1 c2 c3 m1 m2 w k (.p (.int (code L : Nat)))) σ (dSt 1) = some (.next, rL (.tuple [.bytes bT, .bytes [n1], .bytes [n2]]) i c0 c1 c2 c3 m1 m2 w k (.p (.int (code (L &&& (15 ^^^ m2)) : Nat))), σ) :=
  s_if_t rfl (b_cons (s_name rfl rfl rfl (e_call rfl rfl rfl (evs_c (fun _ _ h => nomatch h) rfl (evs_c (fun _ _ h => nomatch h) (e_call rfl rfl rfl (evs_c (fun _ _ h => nomatch h) rfl rfl) (g_inv σ _)) rfl)) ((g_iand _ _ _).trans (by rw [diff_code _ hL _ h2])))) b_nil)
theorem it_then (h1 : m1 < 16) (h2 : m2 < 16) (hk : k < 4) (hc : cOf c0 c1 c2 c3 k < 16) (hρ : ρ = rDd (.tuple [.bytes bT, .bytes [n1], .bytes [n2]]) i c0 c1 c2 c3 m1 m2 w k ∨ ∃ v, ρ = rL (.tuple [.bytes bT, .bytes [n1], .bytes [n2]]) i c0 c1 c2 c3 m1 m2 w k v) :
    body (exD σ) dLoop ρ σ = some (.next, rL (.tuple [.bytes bT, .bytes [n1], .bytes [n2]]) i c0 c1 c2 c3 m1 m2 (wN (((cOf c0 c1 c2 c3 k &&& m1) &&& (15 ^^^ m2)) == 0) w k) k (.p (.int (code ((cOf c0 c1 c2 c3 k &&& m1) &&& (15 ^^^ m2)) : Nat))), σ) :=
  have hL := and_lt _ hc m1 h1
  b_cons (s := dSt 0) (t := [dSt 1, dSt 2]) (it_a hk hc h1 hρ) (b_cons (it_b h2 hL) (b_cons (it_c hk (diff_lt _ hL m2 h2)) b_nil))
theorem it_not (h1 : m1 < 16) (hk : k < 4) (hc : cOf c0 c1 c2 c3 k < 16) (hρ : ρ = rDd (.tuple [.bytes bN, .bytes [n1]]) i c0 c1 c2 c3 m1 m1 w k ∨ ∃ v, ρ = rL (.tuple [.bytes bN, .bytes [n1]]) i c0 c1 c2 c3 m1 m1 w k v) :
    body (exD σ) dLoop ρ σ = some (.next, rL (.tuple [.bytes bN, .bytes [n1]]) i c0 c1 c2 c3 m1 m1 (wN ((cOf c0 c1 c2 c3 k &&& m1) == 0) w k) k (.p (.int (code (cOf c0 c1 c2 c3 k &&& m1) : Nat))), σ) :=
  b_cons (s := dSt 0) (t := [dSt 1, dSt 2]) (it_a hk hc h1 hρ) (b_cons (s_if_f rfl b_nil) (b_cons (it_c hk (and_lt _ hc m1 h1)) b_nil))
theorem frz_L (H : HdrAt σ i l) (y : D) : ((rL x i c0 c1 c2 c3 m1 m2 w k (.p y)).map fun z => (z.1, frozen σ σ.length z.2)) = rL x i c0 c1 c2 c3 m1 m2 w k (.p y) := by
  simp only [rL, List.map, frz_hdr H.lt, frz_p]
end
theorem deed_then (H : HdrAt σ i l) (T1 : Tells l n1 m1) (T2 : Tells l n2 m2) (h0 : c0 < 16) (h1 : c1 < 16) (h2 : c2 < 16) (h3 : c3 < 16) : gDeed σ [.p (.tuple [.bytes bT, .bytes [n1], .bytes [n2]]), .hdr i, .p (.list [.int (code c0 : Nat), .int (code c1 : Nat), .int (code c2 : Nat), .int (code c3 : Nat)])] = some (.p (.int (code (zeros ((c0 &&& m1) &&& (15 ^^^ m2)) ((c1 &&& m1) &&& (15 ^^^ m2)) ((c2 &&& m1) &&& (15 ^^^ m2)) ((c3 &&& m1) &&& (15 ^^^ m2))) : Nat))) := by
  refine run_PE (σ' := σ) rfl ?_
  refine b_consX (s_name rfl rfl rfl (e_call (vs := [.p (.str (word m1))]) rfl rfl rfl (evs_c (fun _ _ h => nomatch h) (e_call (vs := [.hdr i, .p (.str [n1])]) rfl rfl rfl (evs_c (fun _ _ h => nomatch h) rfl (evs_c (fun _ _ h => nomatch h) (e_call (vs := [.p (.bytes [n1])]) rfl rfl rfl (evs_c (fun _ _ h => nomatch h) rfl rfl) (f_text1 σ T1.ok)) rfl)) (g_tells H T1)) rfl) (f_number σ m1 T1.lt))) ?_
  refine b_consX (s_name rfl rfl rfl (e_call (vs := [.p (.str (word m2))]) rfl rfl rfl (evs_c (fun _ _ h => nomatch h) (e_call (vs := [.hdr i, .p (.str [n2])]) rfl rfl rfl (evs_c (fun _ _ h => nomatch h) rfl (evs_c (fun _ _ h => nomatch h) (e_call (vs := [.p (.bytes [n2])]) rfl rfl rfl (evs_c (fun _ _ h => nomatch h) rfl rfl) (f_text1 σ T2.ok)) rfl)) (g_tells H T2)) rfl) (f_number σ m2 T2.lt))) ?_
  refine b_consX (s_if_f rfl b_nil) (b_consX (s_if_f rfl b_nil) (b_consX (s_name rfl rfl rfl rfl) ?_))
  exact b_consX (s_for (v := .rng 0 1 4) (l := [.int (0 : Nat), .int (1 : Nat), .int (2 : Nat), .int (3 : Nat)]) rfl rfl rfl (f_next rfl (it_then (w := 0) (k := 0) T1.lt T2.lt (by decide) h0 (.inl rfl)) (f_next rfl (it_then (k := 1) T1.lt T2.lt (by decide) h1 (.inr ⟨_, rfl⟩)) (f_next rfl (it_then (k := 2) T1.lt T2.lt (by decide) h2 (.inr ⟨_, rfl⟩)) (f_next rfl (it_then (k := 3) T1.lt T2.lt (by decide) h3 (.inr ⟨_, rfl⟩)) f_nil))))) ⟨_, b_ret (s_retQ rfl (frz_L H _) (congrArg (fun z : Int => some (V.p (.int z))) (wN_zeros _ _ _ _)))⟩
theorem deed_not (H : HdrAt σ i l) (T1 : Tells l n1 m1) (h0 : c0 < 16) (h1 : c1 < 16) (h2 : c2 < 16) (h3 : c3 < 16) : gDeed σ [.p (.tuple [.bytes bN, .bytes [n1]]), .hdr i, .p (.list [.int (code c0 : Nat), .int (code c1 : Nat), .int (code c2 : Nat), .int (code c3 : Nat)])] = some (.p (.int (code (zeros (c0 &&& m1) (c1 &&& m1) (c2 &&& m1) (c3 &&& m1)) : Nat))) := by
  refine run_PE (σ' := σ) rfl ?_
  refine b_consX (s_name rfl rfl rfl (e_call (vs := [.p (.str (word m1))]) rfl rfl rfl (evs_c (fun _ _ h => nomatch h) (e_call (vs := [.hdr i, .p (.str [n1])]) rfl rfl rfl (evs_c (fun _ _ h => nomatch h) rfl (evs_c (fun _ _ h => nomatch h) (e_call (vs := [.p (.bytes [n1])]) rfl rfl rfl (evs_c (fun _ _ h => nomatch h) rfl rfl) (f_text1 σ T1.ok)) rfl)) (g_tells H T1)) rfl) (f_number σ m1 T1.lt))) ?_
  refine b_consX (s_name rfl rfl rfl (e_call (vs := [.p (.str (word m1))]) rfl rfl rfl (evs_c (fun _ _ h => nomatch h) (e_call (vs := [.hdr i, .p (.str [n1])]) rfl rfl rfl (evs_c (fun _ _ h => nomatch h) rfl (evs_c (fun _ _ h => nomatch h) (e_call (vs := [.p (.bytes [n1])]) rfl rfl rfl (evs_c (fun _ _ h => nomatch h) rfl rfl) (f_text1 σ T1.ok)) rfl)) (g_tells H T1)) rfl) (f_number σ m1 T1.lt))) ?_
  refine b_consX (s_if_f rfl b_nil) (b_consX (s_if_f rfl b_nil) (b_consX (s_name rfl rfl rfl rfl) ?_))
  exact b_consX (s_for (v := .rng 0 1 4) (l := [.int (0 : Nat), .int (1 : Nat), .int (2 : Nat), .int (3 : Nat)]) rfl rfl rfl (f_next rfl (it_not (w := 0) (k := 0) T1.lt (by decide) h0 (.inl rfl)) (f_next rfl (it_not (k := 1) T1.lt (by decide) h1 (.inr ⟨_, rfl⟩)) (f_next rfl (it_not (k := 2) T1.lt (by decide) h2 (.inr ⟨_, rfl⟩)) (f_next rfl (it_not (k := 3) T1.lt (by decide) h3 (.inr ⟨_, rfl⟩)) f_nil))))) ⟨_, b_ret (s_retQ rfl (frz_L H _) (congrArg (fun z : Int => some (V.p (.int z))) (wN_zeros _ _ _ _)))⟩
end
-- E10
abbrev Q := List (Nat × Nat)
structure Rows where
  kind : Nat → List Nat
  fst : Nat → Nat
  lst : Nat → Nat
  g1 : Nat → Nat
  g2 : Nat → Nat
  T : Nat → List Nat
  M : Nat → Nat
  ms : Nat
  c0 : Nat
  c1 : Nat
  c2 : Nat
  c3 : Nat
noncomputable def Rows.tl (R : Rows) (r : Nat) : List (List Nat) := if r == 7 then [] else if R.kind r == bN then [bN, [nm (R.fst r) (R.g1 r)]] else [R.kind r, [nm (R.fst r) (R.g1 r)], [nm (R.lst r) (R.g2 r)]]
noncomputable def Rows.qL (R : Rows) (q : Q) : List Pr1 := q.map fun x => (nm x.1 x.2, R.T x.1)
noncomputable def Rows.bkL (R : Rows) (known : Q) : List Pr1 := [(112, word (R.M 0)), (113, word (R.M 1)), (80, word R.ms)] ++ known.map fun x => (nm x.1 x.2, word (R.M x.1))
noncomputable def Rows.deed (R : Rows) (r : Nat) : Nat :=
  if R.kind r == bA then R.M (R.fst r) &&& R.M (R.lst r)
  else if R.kind r == bO then R.M (R.fst r) ||| R.M (R.lst r)
  else if R.kind r == bT then zeros (R.c0 &&& R.M (R.fst r) &&& (15 ^^^ R.M (R.lst r))) (R.c1 &&& R.M (R.fst r) &&& (15 ^^^ R.M (R.lst r))) (R.c2 &&& R.M (R.fst r) &&& (15 ^^^ R.M (R.lst r))) (R.c3 &&& R.M (R.fst r) &&& (15 ^^^ R.M (R.lst r)))
  else zeros (R.c0 &&& R.M (R.fst r)) (R.c1 &&& R.M (R.fst r)) (R.c2 &&& R.M (R.fst r)) (R.c3 &&& R.M (R.fst r))
structure Rows.Ok (R : Rows) : Prop where
  kind : ∀ r, 2 ≤ r → r ≤ 6 → R.kind r = bT ∨ R.kind r = bA ∨ R.kind r = bO ∨ R.kind r = bN
  fst : ∀ r, 2 ≤ r → r ≤ 6 → R.fst r < r
  lst : ∀ r, 2 ≤ r → r ≤ 6 → R.lst r < r
  not : ∀ r, 2 ≤ r → r ≤ 6 → R.kind r = bN → R.lst r = R.fst r
  g1 : ∀ r, R.g1 r < 2
  g2 : ∀ r, R.g2 r < 2
  text : ∀ r, 2 ≤ r → r ≤ 7 → (R.T r).any (bad 2) = false ∧ (R.T r).length ≤ 1000 ∧ (R.T r).all (· < 256) = true
  parse : ∀ r, 2 ≤ r → r ≤ 7 → ∀ g < 2, ∀ l, parseS (sendS ((nm r g, R.T r) :: l)) = (R.tl r).map .bytes
  M : ∀ r, r ≤ 6 → R.M r < 16
  ms : R.ms < 16
  c0 : R.c0 < 16
  c1 : R.c1 < 16
  c2 : R.c2 < 16
  c3 : R.c3 < 16
  deed : ∀ r, 2 ≤ r → r ≤ 6 → R.M r = R.deed r
structure QOk (q known : Q) : Prop where
  row : ∀ x ∈ q, 2 ≤ x.1 ∧ x.1 ≤ 7 ∧ x.2 < 2
  nd : (q.map (·.1)).Nodup
  sum : q.length + known.length ≤ 6
  krow : ∀ x ∈ known, 2 ≤ x.1 ∧ x.1 ≤ 6 ∧ x.2 < 2
  apart : ∀ x ∈ q, ∀ y ∈ known, x.1 ≠ y.1
theorem QOk.len {q known : Q} (K : QOk q known) : q.length ≤ 6 := by have := K.sum; omega
theorem QOk.klen {q known : Q} (K : QOk q known) : known.length ≤ 6 := by have := K.sum; omega
theorem word_clean {m : Nat} (h : m < 16) : (word m).any (bad 2) = false ∧ (word m).length ≤ 1000 ∧ (word m).all (· < 256) = true := by
  have hw := word_ok m h
  refine ⟨?_, by omega, ?_⟩
  · rw [List.any_eq_false]
    intro c hc
    have := List.all_eq_true.mp hw.1 c hc
    simp only [Bool.and_eq_true, decide_eq_true_eq] at this
    simp only [bad, Bool.not_eq_true, show ((2 : Nat) == 1) = false from rfl, Bool.false_eq_true, if_false, Bool.or_eq_false_iff, Bool.and_eq_false_iff, decide_eq_false_iff_not, beq_eq_false_iff_ne]
    omega
  · rw [List.all_eq_true]
    intro c hc
    have := List.all_eq_true.mp hw.1 c hc
    simp only [Bool.and_eq_true, decide_eq_true_eq] at this ⊢
    omega
section
variable {R : Rows} {q known : Q}
theorem q_hdr (O : R.Ok) (K : QOk q known) {σ : Sto} {i : Nat} (h : σ[i]? = some ((R.qL q).map prD)) : HdrAt σ i (R.qL q) := by
  refine ⟨h, by have := K.len; simp [Rows.qL]; omega, fun x hx => ?_⟩
  obtain ⟨y, hy, rfl⟩ := List.mem_map.mp hx
  obtain ⟨a, b, c⟩ := K.row y hy
  exact ⟨(nm_ok y.1 (by omega) y.2 c).1, O.text y.1 a b⟩
theorem bk_hdr (O : R.Ok) (K : QOk q known) {σ : Sto} {i : Nat} (h : σ[i]? = some ((R.bkL known).map prD)) : HdrAt σ i (R.bkL known) := by
  refine ⟨h, by have := K.klen; simp [Rows.bkL]; omega, fun x hx => ?_⟩
  rcases List.mem_append.mp hx with hx | hx
  · simp only [List.mem_cons, List.not_mem_nil, or_false] at hx
    rcases hx with rfl | rfl | rfl
    · exact ⟨(by decide : okN 112 = true), word_clean (O.M 0 (by decide))⟩
    · exact ⟨(by decide : okN 113 = true), word_clean (O.M 1 (by decide))⟩
    · exact ⟨(by decide : okN 80 = true), word_clean O.ms⟩
  · obtain ⟨y, hy, rfl⟩ := List.mem_map.mp hx
    obtain ⟨a, b, c⟩ := K.krow y hy
    exact ⟨(nm_ok y.1 (by omega) y.2 c).1, word_clean (O.M y.1 b)⟩
theorem lw_nm {r g : Nat} (hr : r < 8) (hg : g < 2) : lw (nm r g) = nm r 0 := (nm_ok r hr g hg).2.1
theorem nm_ne {r r' : Nat} (hr : r < 8) (hr' : r' < 8) (h : r ≠ r') : (nm r 0 == nm r' 0) = false := beq_eq_false_iff_ne.mpr fun e => h (nm_inj r hr r' hr' e)
theorem getS_nil (t : Nat) : getS t [] = none := rfl
theorem getS_cons (t : Nat) (x : Pr1) (l : List Pr1) : getS t (x :: l) = if lw x.1 == t then some (.p (.str x.2)) else getS t l := by
  unfold getS
  rw [List.findSome?_cons]
  split
  · rename_i h; split at h <;> simp_all
  · rename_i h; split at h <;> simp_all
theorem getS_append (t : Nat) (l l' : List Pr1) : getS t (l ++ l') = (getS t l).or (getS t l') := by
  unfold getS; rw [List.findSome?_append]
theorem getS_rows {f : Nat → List Nat} {r : Nat} (hr : r < 8) : ∀ {q : Q}, (∀ x ∈ q, x.1 < 8 ∧ x.2 < 2) → getS (nm r 0) (q.map fun x => (nm x.1 x.2, f x.1)) = if q.any (·.1 == r) then some (.p (.str (f r))) else none
  | [], _ => rfl
  | x :: q, h => by
    obtain ⟨h1, h2⟩ := h x List.mem_cons_self
    rw [List.map_cons, getS_cons, lw_nm h1 h2, getS_rows hr fun y hy => h y (List.mem_cons_of_mem _ hy), List.any_cons]
    by_cases e : x.1 = r
    · subst e; simp
    · rw [nm_ne h1 hr e, beq_eq_false_iff_ne.mpr e, Bool.false_or]; rfl
theorem del_rows {f : Nat → List Nat} {r : Nat} (hr : r < 8) : ∀ {q : Q}, (∀ x ∈ q, x.1 < 8 ∧ x.2 < 2) → delS (nm r 0) (q.map fun x => (nm x.1 x.2, f x.1)) = (q.filter (·.1 != r)).map fun x => (nm x.1 x.2, f x.1)
  | [], _ => rfl
  | x :: q, h => by
    obtain ⟨h1, h2⟩ := h x List.mem_cons_self
    have ih := del_rows (f := f) hr fun y hy => h y (List.mem_cons_of_mem _ hy)
    unfold delS at ih ⊢
    rw [List.map_cons, List.filter_cons, ih, List.filter_cons]
    dsimp only
    rw [lw_nm h1 h2]
    by_cases e : x.1 = r
    · subst e; simp
    · have := nm_ne h1 hr e
      simp [bne, this, e]
theorem filter_row {r : Nat} {q : Q} (h : ∀ x ∈ q, x.1 ≠ r) : q.filter (·.1 != r) = q := List.filter_eq_self.mpr fun x hx => by simpa using h x hx
theorem bk_get (O : R.Ok) (K : QOk q known) {p : Nat} (hp : p ≤ 6) : getS (nm p 0) (R.bkL known) = if p ≤ 1 ∨ known.any (·.1 == p) = true then some (.p (.str (word (R.M p)))) else none := by
  unfold Rows.bkL
  rw [getS_append, getS_rows (f := fun r => word (R.M r)) (by omega) fun x hx => ⟨by have := (K.krow x hx).2.1; omega, (K.krow x hx).2.2⟩]
  rw [getS_cons, getS_cons, getS_cons, getS_nil]
  match p, hp with
  | 0, _ => rfl
  | 1, _ => rfl
  | 2, _ =>
    rw [show (lw 112 == nm 2 0) = false from by decide, show (lw 113 == nm 2 0) = false from by decide, show (lw 80 == nm 2 0) = false from by decide]
    cases List.any known fun x => x.1 == 2 <;> rfl
  | 3, _ =>
    rw [show (lw 112 == nm 3 0) = false from by decide, show (lw 113 == nm 3 0) = false from by decide, show (lw 80 == nm 3 0) = false from by decide]
    cases List.any known fun x => x.1 == 3 <;> rfl
  | 4, _ =>
    rw [show (lw 112 == nm 4 0) = false from by decide, show (lw 113 == nm 4 0) = false from by decide, show (lw 80 == nm 4 0) = false from by decide]
    cases List.any known fun x => x.1 == 4 <;> rfl
  | 5, _ =>
    rw [show (lw 112 == nm 5 0) = false from by decide, show (lw 113 == nm 5 0) = false from by decide, show (lw 80 == nm 5 0) = false from by decide]
    cases List.any known fun x => x.1 == 5 <;> rfl
  | 6, _ =>
    rw [show (lw 112 == nm 6 0) = false from by decide, show (lw 113 == nm 6 0) = false from by decide, show (lw 80 == nm 6 0) = false from by decide]
    cases List.any known fun x => x.1 == 6 <;> rfl
theorem bk_del (K : QOk q known) {p : Nat} (h2 : 2 ≤ p) (hp : p ≤ 6) (hn : ∀ x ∈ known, x.1 ≠ p) : delS (nm p 0) (R.bkL known) = R.bkL known := by
  unfold Rows.bkL
  have e1 : ∀ a b, delS (nm p 0) (a ++ b) = delS (nm p 0) a ++ delS (nm p 0) b := fun a b => by unfold delS; rw [List.filter_append]
  rw [e1, del_rows (f := fun r => word (R.M r)) (by omega) fun x hx => ⟨by have := (K.krow x hx).2.1; omega, (K.krow x hx).2.2⟩, filter_row hn]
  congr 1
  match p, h2, hp with
  | 2, _, _ => rfl
  | 3, _, _ => rfl
  | 4, _, _ => rfl
  | 5, _, _ => rfl
  | 6, _, _ => rfl
end
end
section
open PySem
set_option autoImplicit false
set_option linter.unusedSimpArgs false
set_option linter.unusedVariables false
set_option maxRecDepth 100000
-- E11
section
variable {C : Ctx} {n : Nat} {sc : Sc} {ρ : Rho} {σ : Sto} {v : V} {p : Pos} {e : Expr} {b : Nat}
theorem evA_e (hA : evA C (ev C n) b sc ρ σ e = ((ev C n).e sc ρ σ e).map fun v => (v, σ)) (h : (ev C n).e sc ρ σ e = some v) : evA C (ev C n) b sc ρ σ e = some (v, σ) := by rw [hA, h]; rfl
theorem e_neg {i : Int} (h : (ev C n).e sc ρ σ e = some (.p (.int i))) : (ev C (n + 1)).e sc ρ σ (.UnaryOp .USub e p) = some (.p (.int (-i))) := bd h rfl
theorem ne_nil (σ : Sto) (l : List D) : cmpOp C σ .NotEq (.p (.list l)) (.p (.list [])) = some (!l.isEmpty) := by cases l <;> rfl
end
section
variable {σ : Sto} {i : Nat} {l : List Pr1}
theorem bytes_hdr (H : HdrAt σ i l) : bytesV (look meths) σ [.hdr i] = some (.p (.bytes (sendS l))) := by
  exact bd rfl (or_l (bd rfl (bd (show look meths "__bytes__" = some mBytes from by kernel_rfl) (bd (bytes_spec H) rfl))))
theorem keys_meth (C : Ctx) (hC : C.meth "keys" = some mKeys) (H : HdrAt σ i l) : methV C σ "keys" (.hdr i) [] = some (.p (.list (l.map fun x => .str [x.1]))) := by
  rw [meth_hdr, hC]; exact keys_spec H
end
noncomputable def inb (known : Q) (p : Nat) : Bool := decide (p ≤ 1) || known.any (·.1 == p)
noncomputable def Rows.ready (R : Rows) (known : Q) (r : Nat) : Bool := r == 7 || (inb known (R.fst r) && inb known (R.lst r))
noncomputable def Rows.names (q : Q) : List D := q.map fun x => .str [nm x.1 x.2]
noncomputable def Rows.told (R : Rows) : Q → List D
  | [] => []
  | x :: _ => (R.tl x.1).map .bytes
noncomputable def Rows.entry (R : Rows) (q : Q) : D := .tuple [.tuple (R.told q), .list (Rows.names q), .int (q.length : Nat)]
noncomputable def Rows.cones (R : Rows) : List D := [.int (code R.c0 : Nat), .int (code R.c1 : Nat), .int (code R.c2 : Nat), .int (code R.c3 : Nat)]
noncomputable def mE (R : Rows) : Rho := [("queue", .hdr 1), ("book", .hdr 3), ("cones", .p (.list R.cones)), ("quiet", .own 2), ("log", .own 4)]
noncomputable def mF (R : Rows) (t a b c : V) : Rho := [("queue", .hdr 1), ("book", .hdr 3), ("cones", .p (.list R.cones)), ("quiet", .own 2), ("log", .own 4), ("turn", t), ("told", a), ("names", b), ("other", c)]
noncomputable def mP (R : Rows) (ρ : Rho) : Prop := ρ = mE R ∨ ∃ t a b c, ρ = mF R t a b c
noncomputable def mSto (R : Rows) (L qu lg : List D) (q known : Q) : Sto := [L, (R.qL q).map prD, qu, (R.bkL known).map prD, lg]
theorem names_qL (R : Rows) (q : Q) : ((R.qL q).map fun x => (.str [x.1] : D)) = Rows.names q := by
  unfold Rows.qL Rows.names; rw [List.map_map]; rfl
section
variable {R : Rows} {q known : Q} {L qu lg : List D} {x : Nat × Nat}
theorem told_ok (O : R.Ok) (K : QOk q known) : parseS (sendS (R.qL q)) = R.told q := by
  cases q with
  | nil => rfl
  | cons x q =>
    obtain ⟨a, b, c⟩ := K.row x List.mem_cons_self
    exact O.parse x.1 a b x.2 c _
theorem parse_q (O : R.Ok) (K : QOk q known) (σ : Sto) : gParse σ [.p (.bytes (sendS (R.qL q)))] = some (.p (.tuple (R.told q))) := by
  rw [← told_ok O K]
  refine g_parse σ ?_
  have h1 := sendS_len (l := R.qL q) fun x hx => by
    obtain ⟨y, hy, rfl⟩ := List.mem_map.mp hx
    exact (O.text y.1 (K.row y hy).1 (K.row y hy).2.1).2.1
  have h2 := K.len
  simp only [Rows.qL, List.length_map] at h1
  simp only [lim]; unfold Rows.qL; omega
noncomputable def mG (R : Rows) (t a b : V) : Rho := [("queue", .hdr 1), ("book", .hdr 3), ("cones", .p (.list R.cones)), ("quiet", .own 2), ("log", .own 4), ("turn", t), ("told", a), ("names", b)]
noncomputable def mH (R : Rows) (q : Q) (t : V) (ρ : Rho) : Prop := ρ = mG R t (.p (.tuple (R.told q))) (.p (.list (Rows.names q))) ∨ ∃ c, ρ = mF R t (.p (.tuple (R.told q))) (.p (.list (Rows.names q))) c
theorem turn_head (O : R.Ok) (K : QOk q known) (hlg : lg.length ≤ 20) {ρ : Rho} (hP : mP R ρ) (t : D) : ∀ tg a1 a2 a3 rest s1 s3 it p, (fnAt 35).bd = [s1, .For tg it (a1 :: a2 :: a3 :: rest) [] p, s3] → ∀ {fl : Fl} {P : Rho → Prop} {σ' : Sto},
    (∀ ρ2, mH R q (.p t) ρ2 → ∃ ρ3, P ρ3 ∧ body (ex ctx5 24 ["log"] 0 4 7 (fnAt 35).sc) rest ρ2 (mSto R L qu (lg ++ [R.entry q]) q known) = some (fl, ρ3, σ')) → ∃ ρ1 ρ3, bindT tg (.p t) ρ = some ρ1 ∧ P ρ3 ∧ body (ex ctx5 24 ["log"] 0 4 7 (fnAt 35).sc) (a1 :: a2 :: a3 :: rest) ρ1 (mSto R L qu lg q known) = some (fl, ρ3, σ') := by
  intro tg a1 a2 a3 rest s1 s3 it p hbd fl P σ' hy
  cases hbd
  have HQ : HdrAt (mSto R L qu lg q known) 1 (R.qL q) := q_hdr O K rfl
  have e1 := bytes_hdr HQ
  have e2 := parse_q O K (mSto R L qu lg q known)
  have e3 := keys_meth ctx5 (by kernel_rfl) HQ
  rw [names_qL] at e3
  have e4 := g_hint HQ
  rw [show (R.qL q).length = q.length from List.length_map _] at e4
  have hl : lg.length < lim := by simp only [lim]; omega
  rcases hP with rfl | ⟨t', a', b', c', rfl⟩
  · obtain ⟨ρ3, hP3, hy⟩ := hy _ (.inl rfl)
    exact ⟨_, ρ3, rfl, hP3, b_cons (s_name rfl rfl rfl (e_call rfl rfl rfl (evs_c (fun _ _ h => nomatch h) (e_call rfl rfl rfl (evs_c (fun _ _ h => nomatch h) rfl rfl) e1) rfl) e2)) (b_cons (s_name rfl rfl rfl (e_meth rfl rfl rfl rfl e3)) (b_cons (s_append (j := 4) (l0 := lg) rfl rfl rfl (evA_e rfl (e_tuple rfl (evs_c (fun _ _ h => nomatch h) rfl (evs_c (fun _ _ h => nomatch h) rfl (evs_c (fun _ _ h => nomatch h) (e_call rfl rfl rfl (evs_c (fun _ _ h => nomatch h) rfl rfl) e4) rfl))) rfl)) (Nat.zero_le _) rfl hl) hy))⟩
  · obtain ⟨ρ3, hP3, hy⟩ := hy _ (.inr ⟨c', rfl⟩)
    exact ⟨_, ρ3, rfl, hP3, b_cons (s_name rfl rfl rfl (e_call rfl rfl rfl (evs_c (fun _ _ h => nomatch h) (e_call rfl rfl rfl (evs_c (fun _ _ h => nomatch h) rfl rfl) e1) rfl) e2)) (b_cons (s_name rfl rfl rfl (e_meth rfl rfl rfl rfl e3)) (b_cons (s_append (j := 4) (l0 := lg) rfl rfl rfl (evA_e rfl (e_tuple rfl (evs_c (fun _ _ h => nomatch h) rfl (evs_c (fun _ _ h => nomatch h) rfl (evs_c (fun _ _ h => nomatch h) (e_call rfl rfl rfl (evs_c (fun _ _ h => nomatch h) rfl rfl) e4) rfl))) rfl)) (Nat.zero_le _) rfl hl) hy))⟩
end
-- E12
section
variable {R : Rows} {q known : Q} {L qu lg : List D} {x : Nat × Nat}
abbrev mBd (st : List Stmt → List Stmt) (rest : List Stmt) : Prop := ∃ s1 tg it p s3, (fnAt 35).bd = [s1, .For tg it (st rest) [] p, s3]
theorem turn_stop (K : QOk [] known) (t : D) : ∀ tg a1 a2 a3 rest s1 s3 it p, (fnAt 35).bd = [s1, .For tg it (a1 :: a2 :: a3 :: rest) [] p, s3] → ∀ ρ2, mH R [] (.p t) ρ2 →
    body (ex ctx5 24 ["log"] 0 4 7 (fnAt 35).sc) rest ρ2 (mSto R L qu lg [] known) = some (.brk, ρ2, mSto R L qu lg [] known) := by
  intro tg a1 a2 a3 rest s1 s3 it p hbd ρ2 hρ
  cases hbd
  rcases hρ with rfl | ⟨c, rfl⟩
  · exact b_brk (s_if_t (t_cmp rfl rfl rfl) (b_brk rfl))
  · exact b_brk (s_if_t (t_cmp rfl rfl rfl) (b_brk rfl))
theorem sub_hd (C : Ctx) (σ : Sto) (a : D) (l : List D) : subV C σ (.p (.list (a :: l))) (.p (.int 0)) = some (.p a) := by
  show item σ (.p (.list (a :: l))) 0 = _
  show ((idx 0 (a :: l).length).bind fun k => ((a :: l)[k]?).map V.p) = _
  have : idx 0 (a :: l).length = some 0 := by
    unfold idx
    rw [if_pos (by decide), if_pos (by simp)]; rfl
  rw [this]; rfl
theorem turn_mid (K : QOk (x :: q) known) (t : D) {σ : Sto} : ∀ tg a1 a2 a3 a4 a5 rest s1 s3 it p, (fnAt 35).bd = [s1, .For tg it (a1 :: a2 :: a3 :: a4 :: a5 :: rest) [] p, s3] → ∀ ρ2, mH R (x :: q) (.p t) ρ2 → ∀ {y},
    body (ex ctx5 24 ["log"] 0 4 7 (fnAt 35).sc) rest (mF R (.p t) (.p (.tuple (R.told (x :: q)))) (.p (.list (Rows.names (x :: q)))) (.p (.str [nm x.1 (1 - x.2)]))) σ = y →
    body (ex ctx5 24 ["log"] 0 4 7 (fnAt 35).sc) (a4 :: a5 :: rest) ρ2 σ = y := by
  intro tg a1 a2 a3 a4 a5 rest s1 s3 it p hbd ρ2 hρ y hy
  cases hbd
  obtain ⟨a, b, c⟩ := K.row x List.mem_cons_self
  have eo := f_other σ x.1 (by omega) a x.2 c
  rcases hρ with rfl | ⟨c, rfl⟩
  · exact b_cons (s_if_f (t_cmp rfl rfl rfl) b_nil) (b_cons (s_name rfl rfl rfl (e_call rfl rfl rfl (evs_c (fun _ _ h => nomatch h) (e_sub (fun _ _ _ _ h => nomatch h) rfl rfl (sub_hd _ _ _ _)) rfl) eo)) hy)
  · exact b_cons (s_if_f (t_cmp rfl rfl rfl) b_nil) (b_cons (s_name rfl rfl rfl (e_call rfl rfl rfl (evs_c (fun _ _ h => nomatch h) (e_sub (fun _ _ _ _ h => nomatch h) rfl rfl (sub_hd _ _ _ _)) rfl) eo)) hy)
noncomputable def kp (bk : List Pr1) (d : D) : Bool := match d with
  | .bytes [n] => ((getS (lw n) bk).isSome == false) != false
  | _ => false
theorem kp_eq (bk : List Pr1) (n : Nat) : kp bk (.bytes [n]) = !(getS (lw n) bk).isSome := by
  show (((getS (lw n) bk).isSome == false) != false) = _
  cases (getS (lw n) bk).isSome <;> rfl
theorem q_rest (K : QOk (x :: q) known) : delS (nm x.1 0) (R.qL (x :: q)) = R.qL q := by
  have h8 : ∀ y ∈ x :: q, y.1 < 8 ∧ y.2 < 2 := fun y hy => ⟨by have := (K.row y hy).2.1; omega, (K.row y hy).2.2⟩
  unfold Rows.qL
  rw [del_rows (f := R.T) (h8 x List.mem_cons_self).1 h8]
  congr 1
  have hn := K.nd
  simp only [List.map_cons, List.nodup_cons] at hn
  rw [List.filter_cons]
  simp only [bne_self_eq_false, Bool.false_eq_true, if_false]
  exact filter_row fun y hy e => hn.1 (List.mem_map.mpr ⟨y, hy, e⟩)
theorem q_get (K : QOk (x :: q) known) : getS (nm x.1 0) (R.qL (x :: q)) = some (.p (.str (R.T x.1))) := by
  have h8 : ∀ y ∈ x :: q, y.1 < 8 ∧ y.2 < 2 := fun y hy => ⟨by have := (K.row y hy).2.1; omega, (K.row y hy).2.2⟩
  unfold Rows.qL
  rw [getS_rows (f := R.T) (h8 x List.mem_cons_self).1 h8, if_pos (by simp)]
theorem q_gone (K : QOk (x :: q) known) : getS (nm x.1 0) (R.qL q) = none := by
  have h8 : ∀ y ∈ x :: q, y.1 < 8 ∧ y.2 < 2 := fun y hy => ⟨by have := (K.row y hy).2.1; omega, (K.row y hy).2.2⟩
  have hn := K.nd
  simp only [List.map_cons, List.nodup_cons] at hn
  unfold Rows.qL
  rw [getS_rows (f := R.T) (h8 x List.mem_cons_self).1 fun y hy => h8 y (List.mem_cons_of_mem _ hy), if_neg]
  intro h
  obtain ⟨y, hy, e⟩ := List.any_eq_true.mp h
  exact hn.1 (List.mem_map.mpr ⟨y, hy, eq_of_beq e⟩)
theorem QOk.tail (K : QOk (x :: q) known) : QOk q known :=
  ⟨fun y hy => K.row y (List.mem_cons_of_mem _ hy), by have := K.nd; simp only [List.map_cons, List.nodup_cons] at this; exact this.2, by have := K.sum; simp only [List.length_cons] at this; omega, K.krow, fun y hy => K.apart y (List.mem_cons_of_mem _ hy)⟩
theorem tells_bk (O : R.Ok) (K : QOk q known) {p g : Nat} (hp : p ≤ 6) (hg : g < 2) (h : inb known p = true) : Tells (R.bkL known) (nm p g) (R.M p) := by
  refine ⟨(nm_ok p (by omega) g hg).1, O.M p hp, ?_⟩
  rw [lw_nm (by omega) hg, bk_get O K hp, if_pos]
  simpa [inb] using h
theorem seen_bk (O : R.Ok) (K : QOk q known) {p g : Nat} (hp : p ≤ 6) (hg : g < 2) : (getS (lw (nm p g)) (R.bkL known)).isSome = inb known p := by
  rw [lw_nm (by omega) hg, bk_get O K hp]
  unfold inb
  by_cases h1 : p ≤ 1
  · rw [if_pos (.inl h1), decide_eq_true h1]; rfl
  · cases h2 : known.any (·.1 == p) with
    | true => rw [if_pos (.inr rfl), Bool.or_true]; rfl
    | false => rw [if_neg (by simp [h1]), decide_eq_false h1]; rfl
end
end
section
open PySem
set_option autoImplicit false
set_option linter.unusedSimpArgs false
set_option linter.unusedVariables false
set_option maxHeartbeats 1000000
set_option maxRecDepth 100000
-- E13
section
variable {R : Rows} {q known : Q} {L qu lg : List D} {x : Nat × Nat}
theorem hint_len {l : List D} (h : l.length ≤ 60) : l.length < lim := by simp only [lim]; omega
theorem st_wait (O : R.Ok) (K : QOk (x :: q) known) : aSetitem (mSto R L qu lg (x :: q) known) [.hdr 1, .p (.str [nm x.1 (1 - x.2)]), .p (.str (R.T x.1))] = some (.p .none, mSto R L qu lg (q ++ [(x.1, 1 - x.2)]) known) := by
  obtain ⟨a, b, c⟩ := K.row x List.mem_cons_self
  have hT := O.text x.1 a b
  have hn := nm_ok x.1 (by omega) (1 - x.2) (by omega)
  rw [a_setitem (q_hdr O K (σ := mSto R L qu lg (x :: q) known) rfl) hn.1 hT.1 hT.2.1, hn.2.1, q_rest K]
  unfold mSto Rows.qL
  rw [List.map_append (l₁ := q) (l₂ := [(x.1, 1 - x.2)])]
  rfl
theorem st_del (O : R.Ok) (K : QOk (x :: q) known) (known' : Q) : aDelitem (mSto R L qu lg (x :: q) known') [.hdr 1, .p (.str [nm x.1 (1 - x.2)])] = some (.p .none, mSto R L qu lg q known') := by
  obtain ⟨a, b, c⟩ := K.row x List.mem_cons_self
  have hn := nm_ok x.1 (by omega) (1 - x.2) (by omega)
  rw [a_delitem (q_hdr O K (σ := mSto R L qu lg (x :: q) known') rfl) hn.1, hn.2.1, q_rest K]
  rfl
theorem st_gone (O : R.Ok) (K : QOk (x :: q) known) (known' : Q) : gGetitem (mSto R L qu lg q known') [.hdr 1, .p (.str [nm x.1 x.2])] = some (.p .none) := by
  obtain ⟨a, b, c⟩ := K.row x List.mem_cons_self
  have hn := nm_ok x.1 (by omega) x.2 c
  rw [g_getitem (q_hdr O K.tail (σ := mSto R L qu lg q known') rfl) hn.1, hn.2.1, q_gone K]; rfl
theorem st_text (O : R.Ok) (K : QOk (x :: q) known) (known' : Q) : gGetitem (mSto R L qu lg (x :: q) known') [.hdr 1, .p (.str [nm x.1 x.2])] = some (.p (.str (R.T x.1))) := by
  obtain ⟨a, b, c⟩ := K.row x List.mem_cons_self
  have hn := nm_ok x.1 (by omega) x.2 c
  rw [g_getitem (q_hdr O K (σ := mSto R L qu lg (x :: q) known') rfl) hn.1, hn.2.1, q_get K]; rfl
theorem st_book (O : R.Ok) (K : QOk (x :: q) known) (h6 : x.1 ≤ 6) : aSetitem (mSto R L qu lg (x :: q) known) [.hdr 3, .p (.str [nm x.1 x.2]), .p (.str (word (R.M x.1)))] = some (.p .none, mSto R L qu lg (x :: q) (known ++ [x])) := by
  obtain ⟨a, b, c⟩ := K.row x List.mem_cons_self
  have hn := nm_ok x.1 (by omega) x.2 c
  have hw := word_clean (O.M x.1 h6)
  rw [a_setitem (bk_hdr O K (σ := mSto R L qu lg (x :: q) known) rfl) hn.1 hw.1 hw.2.1, hn.2.1, bk_del K a h6 fun y hy e => K.apart x List.mem_cons_self y hy e.symm]
  unfold mSto Rows.bkL
  rw [List.map_append (l₁ := known) (l₂ := [x]), List.append_assoc]
  rfl
theorem go0 (O : R.Ok) (K : QOk (x :: q) known) (t : V) (hqu : qu.length ≤ 56) (hz : (!((([] : List D).filter (kp (R.bkL known))).map fun d => d).isEmpty) = false) : ∀ tg a1 a2 a3 a4 a5 a6 s1 s3 it p, (fnAt 35).bd = [s1, .For tg it [a1, a2, a3, a4, a5, a6] [] p, s3] →
    body (ex ctx5 24 ["log"] 0 4 7 (fnAt 35).sc) [a6] (mF R t (.p (.tuple [])) (.p (.list (Rows.names (x :: q)))) (.p (.str [nm x.1 (1 - x.2)]))) (mSto R L qu lg (x :: q) known) = some (.next, (mF R t (.p (.tuple [])) (.p (.list (Rows.names (x :: q)))) (.p (.str [nm x.1 (1 - x.2)]))), mSto R L ((qu ++ [D.none]) ++ [D.none]) lg q known) := by
  intro tg a1 a2 a3 a4 a5 a6 s1 s3 it p hbd
  cases hbd
  have HB : HdrAt (mSto R L qu lg (x :: q) known) 3 (R.bkL known) := bk_hdr O K rfl
  have hqu : qu.length ≤ 60 := by omega
  have l1 : qu.length < lim := hint_len hqu
  have l2 : (qu ++ [D.none]).length < lim := hint_len (by simp only [List.length_append, List.length_cons, List.length_nil]; omega)
  exact b_cons (s_if_f (t_cmp (e_comp (v := .p (.tuple [])) (ll := ([] : List D)) (keep := kp (R.bkL known)) (f := fun d => d) rfl rfl rfl fun d hd => by simp at hd) rfl (Eq.trans (ne_nil _ _) (by rw [hz])))
    (b_cons (s_if_f (t_cmp rfl rfl rfl) b_nil) (b_cons (s_append (j := 2) (l0 := qu) (σ' := mSto R L qu lg q known) rfl rfl rfl (evA_eff rfl rfl rfl (evs_c (fun _ _ h => nomatch h) rfl (evs_c (fun _ _ h => nomatch h) rfl rfl)) (st_del O K known)) (Nat.zero_le _) rfl l1)
    (b_cons (s_append (j := 2) (l0 := (qu ++ [D.none])) (σ' := mSto R L (qu ++ [D.none]) lg q known) rfl rfl rfl (evA_e rfl (e_call rfl rfl rfl (evs_c (fun _ _ h => nomatch h) rfl (evs_c (fun _ _ h => nomatch h) (e_sub (fun _ _ _ _ h => nomatch h) rfl rfl (sub_hd _ _ _ _)) rfl)) (st_gone O K known))) (Nat.zero_le _) rfl l2) b_nil)))) b_nil
theorem wait1 (O : R.Ok) (K : QOk (x :: q) known) {n1 : Nat} (o1 : okN n1 = true) (t : V) (hqu : qu.length ≤ 60) (hz : (!((([.bytes [n1]] : List D).filter (kp (R.bkL known))).map fun d => d).isEmpty) = true) : ∀ tg a1 a2 a3 a4 a5 a6 s1 s3 it p, (fnAt 35).bd = [s1, .For tg it [a1, a2, a3, a4, a5, a6] [] p, s3] →
    body (ex ctx5 24 ["log"] 0 4 7 (fnAt 35).sc) [a6] (mF R t (.p (.tuple [.bytes bN, .bytes [n1]])) (.p (.list (Rows.names (x :: q)))) (.p (.str [nm x.1 (1 - x.2)]))) (mSto R L qu lg (x :: q) known) = some (.next, (mF R t (.p (.tuple [.bytes bN, .bytes [n1]])) (.p (.list (Rows.names (x :: q)))) (.p (.str [nm x.1 (1 - x.2)]))), mSto R L (qu ++ [D.none]) lg (q ++ [(x.1, 1 - x.2)]) known) := by
  intro tg a1 a2 a3 a4 a5 a6 s1 s3 it p hbd
  cases hbd
  have HB : HdrAt (mSto R L qu lg (x :: q) known) 3 (R.bkL known) := bk_hdr O K rfl
  exact b_cons (s_if_t (t_cmp (e_comp (v := .p (.tuple [.bytes [n1]])) (ll := ([.bytes [n1]] : List D)) (keep := kp (R.bkL known)) (f := fun d => d) rfl rfl rfl fun d hd => by
      rw [List.mem_singleton] at hd
      subst hd
      exact ⟨_, rfl, ifs1 (t_cmp (e_call rfl rfl rfl (evs_c (fun _ _ h => nomatch h) rfl (evs_c (fun _ _ h => nomatch h) (e_call rfl rfl rfl (evs_c (fun _ _ h => nomatch h) rfl rfl) (f_text1 _ o1)) rfl)) (g_contains HB o1)) rfl rfl), fun _ => rfl⟩) rfl (Eq.trans (ne_nil _ _) (by rw [hz])))
    (b_cons (s_append (j := 2) (l0 := qu) (σ' := mSto R L qu lg (q ++ [(x.1, 1 - x.2)]) known) rfl rfl rfl (evA_eff rfl rfl rfl (evs_c (fun _ _ h => nomatch h) rfl (evs_c (fun _ _ h => nomatch h) rfl (evs_c (fun _ _ h => nomatch h) (e_call rfl rfl rfl (evs_c (fun _ _ h => nomatch h) rfl (evs_c (fun _ _ h => nomatch h) (e_sub (fun _ _ _ _ h => nomatch h) rfl rfl (sub_hd _ _ _ _)) rfl)) (st_text O K known)) rfl))) (st_wait O K)) (Nat.zero_le _) rfl (hint_len hqu)) b_nil)) b_nil
theorem go1 (O : R.Ok) (K : QOk (x :: q) known) {n1 : Nat} (o1 : okN n1 = true) (t : V) (hqu : qu.length ≤ 56) (hz : (!((([.bytes [n1]] : List D).filter (kp (R.bkL known))).map fun d => d).isEmpty) = false) (h6 : x.1 ≤ 6) (hd : gDeed (mSto R L qu lg (x :: q) known) [.p (.tuple [.bytes bN, .bytes [n1]]), .hdr 3, .p (.list R.cones)] = some (.p (.int (code (R.M x.1) : Nat)))) : ∀ tg a1 a2 a3 a4 a5 a6 s1 s3 it p, (fnAt 35).bd = [s1, .For tg it [a1, a2, a3, a4, a5, a6] [] p, s3] →
    body (ex ctx5 24 ["log"] 0 4 7 (fnAt 35).sc) [a6] (mF R t (.p (.tuple [.bytes bN, .bytes [n1]])) (.p (.list (Rows.names (x :: q)))) (.p (.str [nm x.1 (1 - x.2)]))) (mSto R L qu lg (x :: q) known) = some (.next, (mF R t (.p (.tuple [.bytes bN, .bytes [n1]])) (.p (.list (Rows.names (x :: q)))) (.p (.str [nm x.1 (1 - x.2)]))), mSto R L (((qu ++ [D.none]) ++ [D.none]) ++ [D.none]) lg q (known ++ [x])) := by
  intro tg a1 a2 a3 a4 a5 a6 s1 s3 it p hbd
  cases hbd
  have HB : HdrAt (mSto R L qu lg (x :: q) known) 3 (R.bkL known) := bk_hdr O K rfl
  have hqu : qu.length ≤ 60 := by omega
  have hM := O.M x.1 h6
  have l1 : (qu ++ [D.none]).length < lim := hint_len (by simp only [List.length_append, List.length_cons, List.length_nil]; omega)
  have l2 : ((qu ++ [D.none]) ++ [D.none]).length < lim := hint_len (by simp only [List.length_append, List.length_cons, List.length_nil]; omega)
  exact b_cons (s_if_f (t_cmp (e_comp (v := .p (.tuple [.bytes [n1]])) (ll := ([.bytes [n1]] : List D)) (keep := kp (R.bkL known)) (f := fun d => d) rfl rfl rfl fun d hd => by
      rw [List.mem_singleton] at hd
      subst hd
      exact ⟨_, rfl, ifs1 (t_cmp (e_call rfl rfl rfl (evs_c (fun _ _ h => nomatch h) rfl (evs_c (fun _ _ h => nomatch h) (e_call rfl rfl rfl (evs_c (fun _ _ h => nomatch h) rfl rfl) (f_text1 _ o1)) rfl)) (g_contains HB o1)) rfl rfl), fun _ => rfl⟩) rfl (Eq.trans (ne_nil _ _) (by rw [hz])))
    (b_cons (s_if_t (t_cmp rfl rfl rfl) (b_cons (s_append (j := 2) (l0 := qu) (σ' := mSto R L qu lg (x :: q) (known ++ [x])) rfl rfl rfl (evA_eff rfl rfl rfl (evs_c (fun _ _ h => nomatch h) rfl (evs_c (fun _ _ h => nomatch h) (e_sub (fun _ _ _ _ h => nomatch h) rfl rfl (sub_hd _ _ _ _)) (evs_c (fun _ _ h => nomatch h) (e_call rfl rfl rfl (evs_c (fun _ _ h => nomatch h) (e_call rfl rfl rfl (evs_c (fun _ _ h => nomatch h) (e_neg (e_call rfl rfl rfl (evs_c (fun _ _ h => nomatch h) rfl (evs_c (fun _ _ h => nomatch h) rfl (evs_c (fun _ _ h => nomatch h) rfl rfl))) hd)) rfl) (f_int2ap _ _ hM)) rfl) (f_text _ (word_clean hM).2.2 (word_clean hM).2.1)) rfl))) (st_book O K h6)) (Nat.zero_le _) rfl (hint_len hqu)) b_nil)) (b_cons (s_append (j := 2) (l0 := (qu ++ [D.none])) (σ' := mSto R L (qu ++ [D.none]) lg q (known ++ [x])) rfl rfl rfl (evA_eff rfl rfl rfl (evs_c (fun _ _ h => nomatch h) rfl (evs_c (fun _ _ h => nomatch h) rfl rfl)) (st_del O K (known ++ [x]))) (Nat.zero_le _) rfl l1)
    (b_cons (s_append (j := 2) (l0 := ((qu ++ [D.none]) ++ [D.none])) (σ' := mSto R L ((qu ++ [D.none]) ++ [D.none]) lg q (known ++ [x])) rfl rfl rfl (evA_e rfl (e_call rfl rfl rfl (evs_c (fun _ _ h => nomatch h) rfl (evs_c (fun _ _ h => nomatch h) (e_sub (fun _ _ _ _ h => nomatch h) rfl rfl (sub_hd _ _ _ _)) rfl)) (st_gone O K (known ++ [x])))) (Nat.zero_le _) rfl l2) b_nil)))) b_nil
theorem wait2 (O : R.Ok) (K : QOk (x :: q) known) {n1 n2 : Nat} {k : List Nat} (o1 : okN n1 = true) (o2 : okN n2 = true) (t : V) (hqu : qu.length ≤ 60) (hz : (!((([.bytes [n1], .bytes [n2]] : List D).filter (kp (R.bkL known))).map fun d => d).isEmpty) = true) : ∀ tg a1 a2 a3 a4 a5 a6 s1 s3 it p, (fnAt 35).bd = [s1, .For tg it [a1, a2, a3, a4, a5, a6] [] p, s3] →
    body (ex ctx5 24 ["log"] 0 4 7 (fnAt 35).sc) [a6] (mF R t (.p (.tuple [.bytes k, .bytes [n1], .bytes [n2]])) (.p (.list (Rows.names (x :: q)))) (.p (.str [nm x.1 (1 - x.2)]))) (mSto R L qu lg (x :: q) known) = some (.next, (mF R t (.p (.tuple [.bytes k, .bytes [n1], .bytes [n2]])) (.p (.list (Rows.names (x :: q)))) (.p (.str [nm x.1 (1 - x.2)]))), mSto R L (qu ++ [D.none]) lg (q ++ [(x.1, 1 - x.2)]) known) := by
  intro tg a1 a2 a3 a4 a5 a6 s1 s3 it p hbd
  cases hbd
  have HB : HdrAt (mSto R L qu lg (x :: q) known) 3 (R.bkL known) := bk_hdr O K rfl
  exact b_cons (s_if_t (t_cmp (e_comp (v := .p (.tuple [.bytes [n1], .bytes [n2]])) (ll := ([.bytes [n1], .bytes [n2]] : List D)) (keep := kp (R.bkL known)) (f := fun d => d) rfl rfl rfl fun d hd => by
      rcases List.mem_cons.mp hd with rfl | hd
      · exact ⟨_, rfl, ifs1 (t_cmp (e_call rfl rfl rfl (evs_c (fun _ _ h => nomatch h) rfl (evs_c (fun _ _ h => nomatch h) (e_call rfl rfl rfl (evs_c (fun _ _ h => nomatch h) rfl rfl) (f_text1 _ o1)) rfl)) (g_contains HB o1)) rfl rfl), fun _ => rfl⟩
      · rw [List.mem_singleton] at hd
        subst hd
        exact ⟨_, rfl, ifs1 (t_cmp (e_call rfl rfl rfl (evs_c (fun _ _ h => nomatch h) rfl (evs_c (fun _ _ h => nomatch h) (e_call rfl rfl rfl (evs_c (fun _ _ h => nomatch h) rfl rfl) (f_text1 _ o2)) rfl)) (g_contains HB o2)) rfl rfl), fun _ => rfl⟩) rfl (Eq.trans (ne_nil _ _) (by rw [hz])))
    (b_cons (s_append (j := 2) (l0 := qu) (σ' := mSto R L qu lg (q ++ [(x.1, 1 - x.2)]) known) rfl rfl rfl (evA_eff rfl rfl rfl (evs_c (fun _ _ h => nomatch h) rfl (evs_c (fun _ _ h => nomatch h) rfl (evs_c (fun _ _ h => nomatch h) (e_call rfl rfl rfl (evs_c (fun _ _ h => nomatch h) rfl (evs_c (fun _ _ h => nomatch h) (e_sub (fun _ _ _ _ h => nomatch h) rfl rfl (sub_hd _ _ _ _)) rfl)) (st_text O K known)) rfl))) (st_wait O K)) (Nat.zero_le _) rfl (hint_len hqu)) b_nil)) b_nil
theorem go2 (O : R.Ok) (K : QOk (x :: q) known) {n1 n2 : Nat} {k : List Nat} (o1 : okN n1 = true) (o2 : okN n2 = true) (t : V) (hqu : qu.length ≤ 56) (hz : (!((([.bytes [n1], .bytes [n2]] : List D).filter (kp (R.bkL known))).map fun d => d).isEmpty) = false) (h6 : x.1 ≤ 6) (hd : gDeed (mSto R L qu lg (x :: q) known) [.p (.tuple [.bytes k, .bytes [n1], .bytes [n2]]), .hdr 3, .p (.list R.cones)] = some (.p (.int (code (R.M x.1) : Nat)))) : ∀ tg a1 a2 a3 a4 a5 a6 s1 s3 it p, (fnAt 35).bd = [s1, .For tg it [a1, a2, a3, a4, a5, a6] [] p, s3] →
    body (ex ctx5 24 ["log"] 0 4 7 (fnAt 35).sc) [a6] (mF R t (.p (.tuple [.bytes k, .bytes [n1], .bytes [n2]])) (.p (.list (Rows.names (x :: q)))) (.p (.str [nm x.1 (1 - x.2)]))) (mSto R L qu lg (x :: q) known) = some (.next, (mF R t (.p (.tuple [.bytes k, .bytes [n1], .bytes [n2]])) (.p (.list (Rows.names (x :: q)))) (.p (.str [nm x.1 (1 - x.2)]))), mSto R L (((qu ++ [D.none]) ++ [D.none]) ++ [D.none]) lg q (known ++ [x])) := by
  intro tg a1 a2 a3 a4 a5 a6 s1 s3 it p hbd
  cases hbd
  have HB : HdrAt (mSto R L qu lg (x :: q) known) 3 (R.bkL known) := bk_hdr O K rfl
  have hqu : qu.length ≤ 60 := by omega
  have hM := O.M x.1 h6
  have l1 : (qu ++ [D.none]).length < lim := hint_len (by simp only [List.length_append, List.length_cons, List.length_nil]; omega)
  have l2 : ((qu ++ [D.none]) ++ [D.none]).length < lim := hint_len (by simp only [List.length_append, List.length_cons, List.length_nil]; omega)
  exact b_cons (s_if_f (t_cmp (e_comp (v := .p (.tuple [.bytes [n1], .bytes [n2]])) (ll := ([.bytes [n1], .bytes [n2]] : List D)) (keep := kp (R.bkL known)) (f := fun d => d) rfl rfl rfl fun d hd => by
      rcases List.mem_cons.mp hd with rfl | hd
      · exact ⟨_, rfl, ifs1 (t_cmp (e_call rfl rfl rfl (evs_c (fun _ _ h => nomatch h) rfl (evs_c (fun _ _ h => nomatch h) (e_call rfl rfl rfl (evs_c (fun _ _ h => nomatch h) rfl rfl) (f_text1 _ o1)) rfl)) (g_contains HB o1)) rfl rfl), fun _ => rfl⟩
      · rw [List.mem_singleton] at hd
        subst hd
        exact ⟨_, rfl, ifs1 (t_cmp (e_call rfl rfl rfl (evs_c (fun _ _ h => nomatch h) rfl (evs_c (fun _ _ h => nomatch h) (e_call rfl rfl rfl (evs_c (fun _ _ h => nomatch h) rfl rfl) (f_text1 _ o2)) rfl)) (g_contains HB o2)) rfl rfl), fun _ => rfl⟩) rfl (Eq.trans (ne_nil _ _) (by rw [hz])))
    (b_cons (s_if_t (t_cmp rfl rfl rfl) (b_cons (s_append (j := 2) (l0 := qu) (σ' := mSto R L qu lg (x :: q) (known ++ [x])) rfl rfl rfl (evA_eff rfl rfl rfl (evs_c (fun _ _ h => nomatch h) rfl (evs_c (fun _ _ h => nomatch h) (e_sub (fun _ _ _ _ h => nomatch h) rfl rfl (sub_hd _ _ _ _)) (evs_c (fun _ _ h => nomatch h) (e_call rfl rfl rfl (evs_c (fun _ _ h => nomatch h) (e_call rfl rfl rfl (evs_c (fun _ _ h => nomatch h) (e_neg (e_call rfl rfl rfl (evs_c (fun _ _ h => nomatch h) rfl (evs_c (fun _ _ h => nomatch h) rfl (evs_c (fun _ _ h => nomatch h) rfl rfl))) hd)) rfl) (f_int2ap _ _ hM)) rfl) (f_text _ (word_clean hM).2.2 (word_clean hM).2.1)) rfl))) (st_book O K h6)) (Nat.zero_le _) rfl (hint_len hqu)) b_nil)) (b_cons (s_append (j := 2) (l0 := (qu ++ [D.none])) (σ' := mSto R L (qu ++ [D.none]) lg q (known ++ [x])) rfl rfl rfl (evA_eff rfl rfl rfl (evs_c (fun _ _ h => nomatch h) rfl (evs_c (fun _ _ h => nomatch h) rfl rfl)) (st_del O K (known ++ [x]))) (Nat.zero_le _) rfl l1)
    (b_cons (s_append (j := 2) (l0 := ((qu ++ [D.none]) ++ [D.none])) (σ' := mSto R L ((qu ++ [D.none]) ++ [D.none]) lg q (known ++ [x])) rfl rfl rfl (evA_e rfl (e_call rfl rfl rfl (evs_c (fun _ _ h => nomatch h) rfl (evs_c (fun _ _ h => nomatch h) (e_sub (fun _ _ _ _ h => nomatch h) rfl rfl (sub_hd _ _ _ _)) rfl)) (st_gone O K (known ++ [x])))) (Nat.zero_le _) rfl l2) b_nil)))) b_nil
end
-- E14
noncomputable def Rows.step (R : Rows) (x : Nat × Nat) (q known : Q) : Q × Q := if R.ready known x.1 then (q, if x.1 == 7 then known else known ++ [x]) else (q ++ [(x.1, 1 - x.2)], known)
noncomputable def Rows.trc (R : Rows) : Nat → Q → Q → Option (List D × Q)
  | 0, _, _ => none
  | _ + 1, [], known => some ([R.entry []], known)
  | n + 1, x :: q, known => (R.trc n (R.step x q known).1 (R.step x q known).2).map fun z => (R.entry (x :: q) :: z.1, z.2)
section
variable {R : Rows} {q known : Q} {L lg : List D} {x : Nat × Nat}
theorem step_ok (O : R.Ok) (K : QOk (x :: q) known) : QOk (R.step x q known).1 (R.step x q known).2 := by
  unfold Rows.step
  have hn := K.nd
  simp only [List.map_cons, List.nodup_cons] at hn
  obtain ⟨a, b, c⟩ := K.row x List.mem_cons_self
  have hs := K.sum
  simp only [List.length_cons] at hs
  split
  · split
    · exact K.tail
    · rename_i h7
      refine ⟨K.tail.row, hn.2, by simp only [List.length_append, List.length_cons, List.length_nil]; omega, fun y hy => ?_, fun y hy z hz => ?_⟩
      · rcases List.mem_append.mp hy with hy | hy
        · exact K.krow y hy
        · rw [List.mem_singleton] at hy; subst hy
          refine ⟨a, ?_, c⟩
          have : y.1 ≠ 7 := by simpa using h7
          omega
      · rcases List.mem_append.mp hz with hz | hz
        · exact K.tail.apart y hy z hz
        · rw [List.mem_singleton] at hz; subst hz
          exact fun e => hn.1 (List.mem_map.mpr ⟨y, hy, e⟩)
  · refine ⟨fun y hy => ?_, ?_, by simp only [List.length_append, List.length_cons, List.length_nil]; omega, K.krow, fun y hy z hz => ?_⟩
    · rcases List.mem_append.mp hy with hy | hy
      · exact K.tail.row y hy
      · rw [List.mem_singleton] at hy; subst hy
        exact ⟨a, b, by show 1 - x.2 < 2; omega⟩
    · rw [List.map_append, List.nodup_append]
      refine ⟨hn.2, by simp, fun y hy z hz e => ?_⟩
      simp only [List.map_cons, List.map_nil, List.mem_singleton] at hz
      exact hn.1 (hz ▸ e ▸ hy)
    · rcases List.mem_append.mp hy with hy | hy
      · exact K.tail.apart y hy z hz
      · rw [List.mem_singleton] at hy; subst hy
        exact K.apart x List.mem_cons_self z hz
theorem deed_ok (O : R.Ok) (K : QOk (x :: q) known) (h6 : x.1 ≤ 6) (hr : R.ready known x.1 = true) {qu : List D} : gDeed (mSto R L qu lg (x :: q) known) [.p (.tuple (R.told (x :: q))), .hdr 3, .p (.list R.cones)] = some (.p (.int (code (R.M x.1) : Nat))) := by
  obtain ⟨a, b, c⟩ := K.row x List.mem_cons_self
  have HB : HdrAt (mSto R L qu lg (x :: q) known) 3 (R.bkL known) := bk_hdr O K rfl
  have h7 : (x.1 == 7) = false := beq_eq_false_iff_ne.mpr (by omega)
  unfold Rows.ready at hr
  rw [h7, Bool.false_or, Bool.and_eq_true] at hr
  have hf := O.fst x.1 a h6
  have hl := O.lst x.1 a h6
  have T1 := tells_bk O K (p := R.fst x.1) (g := R.g1 x.1) (by omega) (O.g1 _) hr.1
  have T2 := tells_bk O K (p := R.lst x.1) (g := R.g2 x.1) (by omega) (O.g2 _) hr.2
  rw [O.deed x.1 a h6]
  unfold Rows.deed
  show gDeed _ [.p (.tuple ((R.tl x.1).map .bytes)), _, _] = _
  unfold Rows.tl
  rw [h7, if_neg (by decide)]
  rcases O.kind x.1 a h6 with hk | hk | hk | hk <;> rw [hk]
  · exact deed_then HB T1 T2 O.c0 O.c1 O.c2 O.c3
  · exact deed_and HB T1 T2 _
  · exact deed_or HB T1 T2 _
  · exact deed_not HB T1 O.c0 O.c1 O.c2 O.c3
theorem rep_snoc (k : Nat) : List.replicate k D.none ++ [D.none] = List.replicate (k + 1) D.none := (List.replicate_succ' ..).symm
theorem turn_ok (O : R.Ok) (K : QOk (x :: q) known) {k : Nat} (hk : k ≤ 53) (hlg : lg.length ≤ 20) {ρ : Rho} (hP : mP R ρ) (t : D) : ∀ tg bd s1 s3 it p, (fnAt 35).bd = [s1, .For tg it bd [] p, s3] →
    ∃ ρ1 ρ3, bindT tg (.p t) ρ = some ρ1 ∧ (mP R ρ3 ∧ ∃ k', k' ≤ k + 3 ∧ body (ex ctx5 24 ["log"] 0 4 7 (fnAt 35).sc) bd ρ1 (mSto R L (List.replicate k .none) lg (x :: q) known) =
      some (.next, ρ3, mSto R L (List.replicate k' .none) (lg ++ [R.entry (x :: q)]) (R.step x q known).1 (R.step x q known).2)) := by
  intro tg bd s1 s3 it p hbd
  obtain ⟨a, b, c⟩ := K.row x List.mem_cons_self
  have hqu : (List.replicate k D.none).length ≤ 56 := by rw [List.length_replicate]; omega
  -- what the turn does, by its ways
  have way : ∃ k', k' ≤ k + 3 ∧ ∀ tg a1 a2 a3 a4 a5 a6 s1 s3 it p, (fnAt 35).bd = [s1, .For tg it [a1, a2, a3, a4, a5, a6] [] p, s3] → ∀ lg,
      body (ex ctx5 24 ["log"] 0 4 7 (fnAt 35).sc) [a6] (mF R (.p t) (.p (.tuple (R.told (x :: q)))) (.p (.list (Rows.names (x :: q)))) (.p (.str [nm x.1 (1 - x.2)]))) (mSto R L (List.replicate k .none) lg (x :: q) known) =
      some (.next, mF R (.p t) (.p (.tuple (R.told (x :: q)))) (.p (.list (Rows.names (x :: q)))) (.p (.str [nm x.1 (1 - x.2)])), mSto R L (List.replicate k' .none) lg (R.step x q known).1 (R.step x q known).2) := by
    by_cases h7 : x.1 = 7
    · have h7b : (x.1 == 7) = true := beq_iff_eq.mpr h7
      have e1 : R.told (x :: q) = [] := by show (R.tl x.1).map D.bytes = []; unfold Rows.tl; rw [h7b]; rfl
      have e2 : R.step x q known = (q, known) := by unfold Rows.step Rows.ready; rw [h7b]; rfl
      refine ⟨k + 2, by omega, fun tg a1 a2 a3 a4 a5 a6 s1 s3 it p hbd lg => ?_⟩
      rw [e1, e2, ← rep_snoc, ← rep_snoc]
      exact go0 O K (.p t) hqu rfl tg a1 a2 a3 a4 a5 a6 s1 s3 it p hbd
    · have h6 : x.1 ≤ 6 := by omega
      have h7b : (x.1 == 7) = false := beq_eq_false_iff_ne.mpr h7
      have hf := O.fst x.1 a h6
      have hl := O.lst x.1 a h6
      have o1 := (nm_ok (R.fst x.1) (by omega) (R.g1 x.1) (O.g1 _)).1
      have o2 := (nm_ok (R.lst x.1) (by omega) (R.g2 x.1) (O.g2 _)).1
      have i1 := seen_bk O K (p := R.fst x.1) (g := R.g1 x.1) (by omega) (O.g1 _)
      have i2 := seen_bk O K (p := R.lst x.1) (g := R.g2 x.1) (by omega) (O.g2 _)
      have er : R.ready known x.1 = (inb known (R.fst x.1) && inb known (R.lst x.1)) := by unfold Rows.ready; rw [h7b, Bool.false_or]
      by_cases hN : R.kind x.1 = bN
      · have e1 : R.told (x :: q) = [.bytes bN, .bytes [nm (R.fst x.1) (R.g1 x.1)]] := by
          show (R.tl x.1).map D.bytes = _
          unfold Rows.tl; rw [h7b, hN]; rfl
        rw [O.not x.1 a h6 hN] at er i2
        have hz : (!((([D.bytes [nm (R.fst x.1) (R.g1 x.1)]] : List D).filter (kp (R.bkL known))).map fun d => d).isEmpty) = !(R.ready known x.1) := by
          rw [er, List.filter_cons, kp_eq, i1]
          cases inb known (R.fst x.1) <;> rfl
        cases hr : R.ready known x.1 with
        | true =>
          have e2 : R.step x q known = (q, known ++ [x]) := by unfold Rows.step; rw [hr, h7b]; rfl
          rw [hr] at hz
          refine ⟨k + 3, by omega, fun tg a1 a2 a3 a4 a5 a6 s1 s3 it p hbd lg => ?_⟩
          have hd := deed_ok (L := L) (lg := lg) O K h6 hr (qu := List.replicate k D.none)
          rw [e1] at hd ⊢
          rw [e2, ← rep_snoc, ← rep_snoc, ← rep_snoc]
          exact go1 O K o1 (.p t) hqu hz h6 hd tg a1 a2 a3 a4 a5 a6 s1 s3 it p hbd
        | false =>
          have e2 : R.step x q known = (q ++ [(x.1, 1 - x.2)], known) := by unfold Rows.step; rw [hr]; rfl
          rw [hr] at hz
          refine ⟨k + 1, by omega, fun tg a1 a2 a3 a4 a5 a6 s1 s3 it p hbd lg => ?_⟩
          rw [e1, e2, ← rep_snoc]
          exact wait1 O K o1 (.p t) (by omega) hz tg a1 a2 a3 a4 a5 a6 s1 s3 it p hbd
      · have e1 : R.told (x :: q) = [.bytes (R.kind x.1), .bytes [nm (R.fst x.1) (R.g1 x.1)], .bytes [nm (R.lst x.1) (R.g2 x.1)]] := by
          show (R.tl x.1).map D.bytes = _
          unfold Rows.tl; rw [h7b, beq_eq_false_iff_ne.mpr hN]; rfl
        have hz : (!((([D.bytes [nm (R.fst x.1) (R.g1 x.1)], D.bytes [nm (R.lst x.1) (R.g2 x.1)]] : List D).filter (kp (R.bkL known))).map fun d => d).isEmpty) = !(R.ready known x.1) := by
          rw [er, List.filter_cons, List.filter_cons, kp_eq, kp_eq, i1, i2]
          cases inb known (R.fst x.1) <;> cases inb known (R.lst x.1) <;> rfl
        cases hr : R.ready known x.1 with
        | true =>
          have e2 : R.step x q known = (q, known ++ [x]) := by unfold Rows.step; rw [hr, h7b]; rfl
          rw [hr] at hz
          refine ⟨k + 3, by omega, fun tg a1 a2 a3 a4 a5 a6 s1 s3 it p hbd lg => ?_⟩
          have hd := deed_ok (L := L) (lg := lg) O K h6 hr (qu := List.replicate k D.none)
          rw [e1] at hd ⊢
          rw [e2, ← rep_snoc, ← rep_snoc, ← rep_snoc]
          exact go2 O K o1 o2 (.p t) hqu hz h6 hd tg a1 a2 a3 a4 a5 a6 s1 s3 it p hbd
        | false =>
          have e2 : R.step x q known = (q ++ [(x.1, 1 - x.2)], known) := by unfold Rows.step; rw [hr]; rfl
          rw [hr] at hz
          refine ⟨k + 1, by omega, fun tg a1 a2 a3 a4 a5 a6 s1 s3 it p hbd lg => ?_⟩
          rw [e1, e2, ← rep_snoc]
          exact wait2 O K o1 o2 (.p t) (by omega) hz tg a1 a2 a3 a4 a5 a6 s1 s3 it p hbd
  obtain ⟨k', hk', way⟩ := way
  cases hbd
  obtain ⟨ρ1, ρ3, e1, hP3, e3⟩ := turn_head (L := L) (qu := List.replicate k D.none) O K hlg hP t _ _ _ _ _ _ _ _ _ rfl (fl := .next) (P := mP R) (σ' := mSto R L (List.replicate k' .none) (lg ++ [R.entry (x :: q)]) (R.step x q known).1 (R.step x q known).2)
    fun ρ2 hρ2 => ⟨_, .inr ⟨_, _, _, _, rfl⟩, turn_mid K t _ _ _ _ _ _ _ _ _ _ _ rfl ρ2 hρ2 (way _ _ _ _ _ _ _ _ _ _ _ rfl _)⟩
  exact ⟨ρ1, ρ3, e1, hP3, k', hk', e3⟩
end
-- E15
section
variable {R : Rows} {L : List D}
noncomputable def mP' (R : Rows) (ρ : Rho) : Prop := (∃ t a b, ρ = mG R t a b) ∨ ∃ t a b c, ρ = mF R t a b c
theorem mH_P' {q : Q} {t : V} {ρ : Rho} (h : mH R q t ρ) : mP' R ρ := h.elim (fun h => .inl ⟨_, _, _, h⟩) fun ⟨c, h⟩ => .inr ⟨_, _, _, c, h⟩
theorem machine_loop (O : R.Ok) : ∀ (ts : List D) (q known : Q) (k : Nat) (lg : List D) (ρ : Rho), QOk q known → mP R ρ → k + 3 * ts.length ≤ 56 → lg.length + ts.length ≤ 20 → ∀ log kf, R.trc ts.length q known = some (log, kf) →
    ∀ tg bd s1 s3 it p, (fnAt 35).bd = [s1, .For tg it bd [] p, s3] → ∃ ρ' k', (mP' R ρ' ∧ k' ≤ k + 3 * ts.length) ∧ forGo (fun ρ σ => body (ex ctx5 24 ["log"] 0 4 7 (fnAt 35).sc) bd ρ σ) (fun d ρ => bindT tg (.p d) ρ) ts ρ (mSto R L (List.replicate k .none) lg q known) =
      some (.next, ρ', mSto R L (List.replicate k' .none) (lg ++ log) [] kf)
  | [], _, _, _, _, _, _, _, _, _, _, _, h => by cases h
  | t :: ts, [], known, k, lg, ρ, K, hP, hk, hl, log, kf, h => by
    intro tg bd s1 s3 it p hbd
    cases h
    cases hbd
    obtain ⟨ρ1, ρ3, e1, hP3, e3⟩ := turn_head (L := L) (qu := List.replicate k D.none) O K (by simp only [List.length_cons] at hl; omega) hP t _ _ _ _ _ _ _ _ _ rfl (fl := .brk) (P := mP' R) (σ' := mSto R L (List.replicate k .none) (lg ++ [R.entry []]) [] known)
      fun ρ2 hρ2 => ⟨ρ2, mH_P' hρ2, turn_stop K t _ _ _ _ _ _ _ _ _ rfl ρ2 hρ2⟩
    exact ⟨ρ3, k, ⟨hP3, by omega⟩, Mine.bd e1 (Mine.bd e3 rfl)⟩
  | t :: ts, x :: q, known, k, lg, ρ, K, hP, hk, hl, log, kf, h => by
    intro tg bd s1 s3 it p hbd
    simp only [List.length_cons] at hk hl h
    obtain ⟨⟨log', kf'⟩, h1, h2⟩ := Option.map_eq_some_iff.mp h
    cases h2
    obtain ⟨ρ1, ρ3, e1, hP3, k', hk', e3⟩ := turn_ok (L := L) (lg := lg) O K (k := k) (by omega) (by omega) hP t tg bd s1 s3 it p hbd
    obtain ⟨ρ', k'', ⟨hP', hk''⟩, e4⟩ := machine_loop O ts _ _ k' (lg ++ [R.entry (x :: q)]) ρ3 (step_ok O K) hP3 (by omega) (by simp only [List.length_append, List.length_cons, List.length_nil]; omega) _ _ h1 tg bd s1 s3 it p hbd
    refine ⟨ρ', k'', ⟨hP', by simp only [List.length_cons]; omega⟩, ?_⟩
    rw [List.append_assoc] at e4
    exact Mine.bd e1 (Mine.bd e3 e4)
theorem machine_ok (O : R.Ok) {q : Q} (K : QOk q []) {log : List D} {kf : Q} (h : R.trc 18 q [] = some (log, kf)) : ∃ k, k ≤ 54 ∧ aMachine [L, (R.qL q).map prD, [], (R.bkL []).map prD] [.hdr 1, .hdr 3, .p (.list R.cones), .own 2] =
    some (.p (.list log), [L, [], List.replicate k .none, (R.bkL kf).map prD]) := by
  have e0 : ∃ s1 tg it bd p s3, (fnAt 35).bd = [s1, .For tg it bd [] p, s3] := ⟨_, _, _, _, _, _, rfl⟩
  obtain ⟨s1, tg, it, bd, p, s3, hbd⟩ := e0
  obtain ⟨ρ', k', ⟨hP', hk'⟩, e⟩ := machine_loop (L := L) O ((List.range 18).map fun k => D.int (0 + Int.ofNat k * 1)) q [] 0 [] (mE R) K (.inl rfl) (by decide) (by decide) log kf h tg bd s1 s3 it p hbd
  cases hbd
  have e2 : (R.bkL kf).map prD = (R.bkL kf).map prD := rfl
  refine ⟨k', by simpa using hk', ?_⟩
  unfold aMachine
  have := run_AE (C := ctx5) (f := fnAt 35 ["log"]) (σ := [L, (R.qL q).map prD, [], (R.bkL []).map prD]) (vs := [.hdr 1, .hdr 3, .p (.list R.cones), .own 2]) (r := .p (.list log)) (σ' := mSto R L (List.replicate k' .none) log [] kf) (ρ := [("queue", .hdr 1), ("book", .hdr 3), ("cones", .p (.list R.cones)), ("quiet", .own 2)]) rfl
    (b_consX (ρ' := mE R) (σ' := mSto R L [] [] q []) (s_fresh rfl rfl rfl) (b_consX (s_for (v := .rng 0 1 18) rfl rfl rfl e) ⟨ρ', b_ret (s_ret ?_)⟩))
  · exact this
  · rcases hP' with ⟨t, a, b, rfl⟩ | ⟨t, a, b, c, rfl⟩ <;> rfl
end
-- E16
structure Dress where
  way : Nat → Nat
  gap : Nat → Nat
  gr : Nat → Nat
noncomputable def nD (n : Nat) : D := .int (n : Nat)
noncomputable def dress5 (R : Rows) (Z : Dress) (r : Nat) : List D := [nD (Z.way r), nD (Z.gap r), nD (Z.gr r), nD (R.g1 r), nD (R.g2 r)]
noncomputable def dressD (R : Rows) (Z : Dress) : List D := dress5 R Z 2 ++ dress5 R Z 3 ++ dress5 R Z 4 ++ dress5 R Z 5 ++ dress5 R Z 6 ++ dress5 R Z 7
noncomputable def defD (R : Rows) (r : Nat) : D := .tuple [.str (R.kind r), nD (R.fst r), nD (R.lst r)]
noncomputable def defsD (R : Rows) : List D := [defD R 2, defD R 3, defD R 4, defD R 5, defD R 6]
noncomputable def wordsD (R : Rows) (r : Nat) : List D := (R.tl r).map .str
section
variable {σ : Sto} {l : List D}
theorem get_new (σ : Sto) (l : List D) : (σ ++ [l])[σ.length]? = some l := by simp
theorem set_new (σ : Sto) (l l' : List D) : (σ ++ [l]).set σ.length l' = σ ++ [l'] := by simp
theorem frz_new (σ : Sto) (l : List D) : frozen (σ ++ [l]) σ.length (.own σ.length) = .p (.list l) := by
  show (if σ.length ≤ σ.length then (((σ ++ [l])[σ.length]?).map fun l => V.p (.list l)).getD .any else V.own σ.length) = _
  rw [if_pos (Nat.le_refl _), get_new]; rfl
theorem ne_not {C : Ctx} (σ : Sto) (k : List Nat) : cmpOp C σ .NotEq (.p (.str k)) (.p (.str bN)) = some (k != bN) := by
  show some ((k == bN) != true) = _
  cases h : k == bN <;> simp [h, bne]
end
section
variable {C : Ctx} {n k : Nat} {mu : List Str} {b z : Nat} {sc : Sc} {ρ : Rho} {σ σ' σ'' : Sto} {p ap cp : Pos} {o x : Expr} {d : D} {v : V} {e : Expr}
theorem s_appendE {j : Nat} {l0 : List D} (hs : notSuper o = true) (ho : (ev C n).e sc ρ σ o = some (.own j)) (hp : (ap.endLine == cp.line) = true) (hx : evA C (ev C n) b sc ρ σ x = some (.p d, σ')) (hb : b ≤ j) (h0 : σ'[j]? = some l0) (hl : l0.length < lim) (he : σ'.set j (l0 ++ [d]) = σ'') :
    ex C n mu b z (k + 1) sc ρ σ (.Expr (.Call (.Attribute o "append" ap) [x] [] cp) p) = some (.next, ρ, σ'') := he ▸ s_append hs ho hp hx hb h0 hl
theorem s_retE {w : V} (h : (ev C n).e sc (ρ.map fun x => (x.1, frozen σ z x.2)) (σ.take z) e = some w) (he : w = v) : ex C n mu b z (k + 1) sc ρ σ (.Return (some e) p) = some (.ret v, ρ, σ) := he ▸ s_ret h
end
section
variable {R : Rows} {Z : Dress} {σ : Sto}
theorem words_ok (O : R.Ok) (σ : Sto) : ∀ r, 2 ≤ r → r ≤ 6 → gWords σ [.p (nD r), .p (.list (defsD R)), .p (.list (dressD R Z))] = some (.p (.list (wordsD R r))) := by
  intro r h2 h6
  have e1 := f_name (σ) (R.fst r) (by have := O.fst r h2 h6; omega) (R.g1 r) (O.g1 r)
  have e2 := fun l => f_name (σ ++ [l]) (R.lst r) (by have := O.lst r h2 h6; omega) (R.g2 r) (O.g2 r)
  have h7 : (r == 7) = false := beq_eq_false_iff_ne.mpr (by omega)
  have hlen : ([D.str (R.kind r), D.str [nm (R.fst r) (R.g1 r)]] : List D).length < lim := by simp [lim]
  unfold wordsD Rows.tl
  rw [h7, if_neg (by decide)]
  by_cases hN : R.kind r = bN
  · have hne : cmpOp (cA fn2) (σ ++ [[D.str (R.kind r), .str [nm (R.fst r) (R.g1 r)]]]) .NotEq (.p (.str (R.kind r))) (.p (.str bN)) = some false := by rw [ne_not, hN]; rfl
    rw [if_pos (beq_iff_eq.mpr hN), ← hN]
    refine run_PE (σ' := σ ++ [[.str (R.kind r), .str [nm (R.fst r) (R.g1 r)]]]) rfl ?_
    have hr : r = 2 ∨ r = 3 ∨ r = 4 ∨ r = 5 ∨ r = 6 := by omega
    rcases hr with rfl | rfl | rfl | rfl | rfl
    · exact b_consX (s_tgt rfl rfl rfl rfl rfl) (b_consX (s_fresh rfl rfl (e_list rfl (evs_c (fun _ _ h => nomatch h) rfl (evs_c (fun _ _ h => nomatch h) (e_call rfl rfl rfl (evs_c (fun _ _ h => nomatch h) rfl (evs_c (fun _ _ h => nomatch h) rfl rfl)) e1) rfl)) rfl)) (b_consX (s_if_f (t_cmp rfl rfl hne) b_nil) ⟨_, b_ret (s_retE rfl (frz_new _ _))⟩))
    · exact b_consX (s_tgt rfl rfl rfl rfl rfl) (b_consX (s_fresh rfl rfl (e_list rfl (evs_c (fun _ _ h => nomatch h) rfl (evs_c (fun _ _ h => nomatch h) (e_call rfl rfl rfl (evs_c (fun _ _ h => nomatch h) rfl (evs_c (fun _ _ h => nomatch h) rfl rfl)) e1) rfl)) rfl)) (b_consX (s_if_f (t_cmp rfl rfl hne) b_nil) ⟨_, b_ret (s_retE rfl (frz_new _ _))⟩))
    · exact b_consX (s_tgt rfl rfl rfl rfl rfl) (b_consX (s_fresh rfl rfl (e_list rfl (evs_c (fun _ _ h => nomatch h) rfl (evs_c (fun _ _ h => nomatch h) (e_call rfl rfl rfl (evs_c (fun _ _ h => nomatch h) rfl (evs_c (fun _ _ h => nomatch h) rfl rfl)) e1) rfl)) rfl)) (b_consX (s_if_f (t_cmp rfl rfl hne) b_nil) ⟨_, b_ret (s_retE rfl (frz_new _ _))⟩))
    · exact b_consX (s_tgt rfl rfl rfl rfl rfl) (b_consX (s_fresh rfl rfl (e_list rfl (evs_c (fun _ _ h => nomatch h) rfl (evs_c (fun _ _ h => nomatch h) (e_call rfl rfl rfl (evs_c (fun _ _ h => nomatch h) rfl (evs_c (fun _ _ h => nomatch h) rfl rfl)) e1) rfl)) rfl)) (b_consX (s_if_f (t_cmp rfl rfl hne) b_nil) ⟨_, b_ret (s_retE rfl (frz_new _ _))⟩))
    · exact b_consX (s_tgt rfl rfl rfl rfl rfl) (b_consX (s_fresh rfl rfl (e_list rfl (evs_c (fun _ _ h => nomatch h) rfl (evs_c (fun _ _ h => nomatch h) (e_call rfl rfl rfl (evs_c (fun _ _ h => nomatch h) rfl (evs_c (fun _ _ h => nomatch h) rfl rfl)) e1) rfl)) rfl)) (b_consX (s_if_f (t_cmp rfl rfl hne) b_nil) ⟨_, b_ret (s_retE rfl (frz_new _ _))⟩))
  · have hne : cmpOp (cA fn2) (σ ++ [[D.str (R.kind r), .str [nm (R.fst r) (R.g1 r)]]]) .NotEq (.p (.str (R.kind r))) (.p (.str bN)) = some true := by
      rw [ne_not]
      have : (R.kind r == bN) = false := beq_eq_false_iff_ne.mpr hN
      simp [bne, this]
    rw [if_neg (by simpa using hN)]
    refine run_PE (σ' := σ ++ [[.str (R.kind r), .str [nm (R.fst r) (R.g1 r)], .str [nm (R.lst r) (R.g2 r)]]]) rfl ?_
    have hr : r = 2 ∨ r = 3 ∨ r = 4 ∨ r = 5 ∨ r = 6 := by omega
    rcases hr with rfl | rfl | rfl | rfl | rfl
    · exact b_consX (s_tgt rfl rfl rfl rfl rfl) (b_consX (s_fresh rfl rfl (e_list rfl (evs_c (fun _ _ h => nomatch h) rfl (evs_c (fun _ _ h => nomatch h) (e_call rfl rfl rfl (evs_c (fun _ _ h => nomatch h) rfl (evs_c (fun _ _ h => nomatch h) rfl rfl)) e1) rfl)) rfl)) (b_consX (s_if_t (t_cmp rfl rfl hne) (b_cons (s_appendE (j := σ.length) rfl rfl rfl (evA_e rfl (e_call rfl rfl rfl (evs_c (fun _ _ h => nomatch h) rfl (evs_c (fun _ _ h => nomatch h) rfl rfl)) (e2 _))) (Nat.le_refl _) (get_new _ _) hlen (set_new _ _ _)) b_nil)) ⟨_, b_ret (s_retE rfl (frz_new _ _))⟩))
    · exact b_consX (s_tgt rfl rfl rfl rfl rfl) (b_consX (s_fresh rfl rfl (e_list rfl (evs_c (fun _ _ h => nomatch h) rfl (evs_c (fun _ _ h => nomatch h) (e_call rfl rfl rfl (evs_c (fun _ _ h => nomatch h) rfl (evs_c (fun _ _ h => nomatch h) rfl rfl)) e1) rfl)) rfl)) (b_consX (s_if_t (t_cmp rfl rfl hne) (b_cons (s_appendE (j := σ.length) rfl rfl rfl (evA_e rfl (e_call rfl rfl rfl (evs_c (fun _ _ h => nomatch h) rfl (evs_c (fun _ _ h => nomatch h) rfl rfl)) (e2 _))) (Nat.le_refl _) (get_new _ _) hlen (set_new _ _ _)) b_nil)) ⟨_, b_ret (s_retE rfl (frz_new _ _))⟩))
    · exact b_consX (s_tgt rfl rfl rfl rfl rfl) (b_consX (s_fresh rfl rfl (e_list rfl (evs_c (fun _ _ h => nomatch h) rfl (evs_c (fun _ _ h => nomatch h) (e_call rfl rfl rfl (evs_c (fun _ _ h => nomatch h) rfl (evs_c (fun _ _ h => nomatch h) rfl rfl)) e1) rfl)) rfl)) (b_consX (s_if_t (t_cmp rfl rfl hne) (b_cons (s_appendE (j := σ.length) rfl rfl rfl (evA_e rfl (e_call rfl rfl rfl (evs_c (fun _ _ h => nomatch h) rfl (evs_c (fun _ _ h => nomatch h) rfl rfl)) (e2 _))) (Nat.le_refl _) (get_new _ _) hlen (set_new _ _ _)) b_nil)) ⟨_, b_ret (s_retE rfl (frz_new _ _))⟩))
    · exact b_consX (s_tgt rfl rfl rfl rfl rfl) (b_consX (s_fresh rfl rfl (e_list rfl (evs_c (fun _ _ h => nomatch h) rfl (evs_c (fun _ _ h => nomatch h) (e_call rfl rfl rfl (evs_c (fun _ _ h => nomatch h) rfl (evs_c (fun _ _ h => nomatch h) rfl rfl)) e1) rfl)) rfl)) (b_consX (s_if_t (t_cmp rfl rfl hne) (b_cons (s_appendE (j := σ.length) rfl rfl rfl (evA_e rfl (e_call rfl rfl rfl (evs_c (fun _ _ h => nomatch h) rfl (evs_c (fun _ _ h => nomatch h) rfl rfl)) (e2 _))) (Nat.le_refl _) (get_new _ _) hlen (set_new _ _ _)) b_nil)) ⟨_, b_ret (s_retE rfl (frz_new _ _))⟩))
    · exact b_consX (s_tgt rfl rfl rfl rfl rfl) (b_consX (s_fresh rfl rfl (e_list rfl (evs_c (fun _ _ h => nomatch h) rfl (evs_c (fun _ _ h => nomatch h) (e_call rfl rfl rfl (evs_c (fun _ _ h => nomatch h) rfl (evs_c (fun _ _ h => nomatch h) rfl rfl)) e1) rfl)) rfl)) (b_consX (s_if_t (t_cmp rfl rfl hne) (b_cons (s_appendE (j := σ.length) rfl rfl rfl (evA_e rfl (e_call rfl rfl rfl (evs_c (fun _ _ h => nomatch h) rfl (evs_c (fun _ _ h => nomatch h) rfl rfl)) (e2 _))) (Nat.le_refl _) (get_new _ _) hlen (set_new _ _ _)) b_nil)) ⟨_, b_ret (s_retE rfl (frz_new _ _))⟩))
end
-- E17
section
variable {C : Ctx} {n k : Nat} {mu : List Str} {b z : Nat} {sc : Sc} {ρ ρ' : Rho} {σ σ' : Sto} {p q : Pos} {test value : Expr} {bd : List Stmt} {y : Option (Fl × Rho × Sto)} {x : Str} {l : List D}
theorem s_while (h : whileGo (fun ρ σ => (ev C n).t sc ρ σ test) (fun ρ σ => body (ex C n mu b z k sc) bd ρ σ) 64 ρ σ = y) : ex C n mu b z (k + 1) sc ρ σ (.While test bd [] p) = y := by
  exact h
end
section
variable {C : Ctx} {σ : Sto} {j : Nat} {a : D} {l : List D}
theorem sub_own_hd (h : σ[j]? = some (a :: l)) : subV C σ (.own j) (.p (.int 0)) = some (.p a) := by
  show item σ (.own j) 0 = _
  show ((σ[j]?).bind fun l => (idx 0 l.length).bind fun k => (l[k]?).map V.p) = _
  have : idx 0 (a :: l).length = some 0 := by
    unfold idx
    rw [if_pos (by decide), if_pos (by simp)]; rfl
  rw [h, Option.bind_some, this]; rfl
theorem ne_own (h : σ[j]? = some l) : cmpOp C σ .NotEq (.own j) (.p (.list [])) = some (!l.isEmpty) := by
  exact (show eqOp σ true (.own j) (.p (.list [])) = _ from Mine.bd h (Mine.bd rfl (by cases l <;> rfl)))
theorem len_list (meth : Str → Option Pr) (σ : Sto) (h : l.length ≤ lim) : lenV meth σ [.p (.list l)] = some (.p (.int (l.length : Nat))) := by
  exact Mine.bd rfl (Mine.bd rfl (gd (decide_eq_true h) rfl))
theorem slice1_own (h : σ[j]? = some l) (hl : l.length ≤ lim) : sliced σ (.own j) (some 1) none none = some (.p (.list (l.drop 1))) := by
  rw [sliced_own h hl rfl]
  cases l with
  | nil => rfl
  | cons a l => exact congrArg (fun x => some (V.p (.list x))) (pick_from (a :: l) 1 (by simp))
end
theorem ints_map {α : Type} (g : α → Int) : ∀ l : List α, ints? (l.map fun x => .int (g x)) = some (l.map g)
  | [] => rfl
  | x :: l => by simp only [List.map_cons, ints?, ints_map g l]; rfl
theorem bytes_list (meth : Str → Option Pr) (σ : Sto) {s : List Nat} (h : s.all (· < 256) = true) (hl : s.length ≤ lim) : bytesV meth σ [.p (.list (s.map fun (c : Nat) => D.int c))] = some (.p (.bytes s)) := by
  refine Mine.bd rfl (Mine.bd (ints_map (fun c : Nat => (c : Int)) s) ?_)
  rw [if_pos]
  · rw [List.map_map]
    congr 3
    conv => rhs; rw [← List.map_id s]
    rfl
  · rw [Bool.and_eq_true, List.all_map]
    refine ⟨?_, decide_eq_true (by rw [List.length_map]; exact hl)⟩
    rw [List.all_eq_true] at h ⊢
    intro c hc
    have := h c hc
    simp only [decide_eq_true_eq] at this
    simp only [Function.comp, Bool.and_eq_true, decide_eq_true_eq]
    omega
noncomputable def pairD (x : Nat × Nat) : D := .tuple [nD x.1, nD x.2]
noncomputable def lB (R : Rows) (Z : Dress) (j : Nat) : Rho := [("line", .own j), ("defs", .p (.list (defsD R))), ("dress", .p (.list (dressD R Z))), ("known", .own 6), ("log", .own 7)]
noncomputable def lB3 (R : Rows) (Z : Dress) (j : Nat) (a b c : V) : Rho := [("line", .own j), ("defs", .p (.list (defsD R))), ("dress", .p (.list (dressD R Z))), ("known", .own 6), ("log", .own 7), ("row", a), ("great", b), ("names", c)]
noncomputable def lB4 (R : Rows) (Z : Dress) (j : Nat) (a b c d : V) : Rho := [("line", .own j), ("defs", .p (.list (defsD R))), ("dress", .p (.list (dressD R Z))), ("known", .own 6), ("log", .own 7), ("row", a), ("great", b), ("names", c), ("words", d)]
noncomputable def lP (R : Rows) (Z : Dress) (j : Nat) (ρ : Rho) : Prop := ρ = lB R Z j ∨ (∃ a b c, ρ = lB3 R Z j a b c) ∨ ∃ a b c d, ρ = lB4 R Z j a b c d
structure LSt (σ : Sto) (j : Nat) (q known : Q) (lg : List D) : Prop where
  cur : σ[j]? = some (q.map pairD)
  known : σ[6]? = some (known.map pairD)
  log : σ[7]? = some lg
  len : 8 ≤ σ.length
  j5 : 5 ≤ j
  j6 : j ≠ 6
  j7 : j ≠ 7
theorem LSt.lt {σ : Sto} {j : Nat} {q known : Q} {lg : List D} (h : LSt σ j q known lg) : j < σ.length := (List.getElem?_eq_some_iff.mp h.cur).1
section
variable {R : Rows} {Z : Dress} {q known : Q} {lg : List D} {x : Nat × Nat} {σ : Sto} {j : Nat}
set_option backward.match.sparseCases false in
noncomputable def sWhile : Stmt → Expr × List Stmt
  | .While t b _ _ => (t, b)
  | _ => (.Name "" ⟨0, 0, 0, 0⟩, [])
noncomputable def logW : Stmt := (fnAt 36).bd.getD 3 (.Pass ⟨0, 0, 0, 0⟩)
noncomputable def logT : Expr := (sWhile logW).1
noncomputable def logB : List Stmt := (sWhile logW).2
noncomputable def lS (k : Nat) : Stmt := logB.getD k (.Pass ⟨0, 0, 0, 0⟩)
noncomputable abbrev exLg : Rho → Sto → Stmt → Option (Fl × Rho × Sto) := ex (cA fn4) 24 ["line", "known", "log"] 5 5 7 (fnAt 36).sc
noncomputable abbrev lHH (R : Rows) (Z : Dress) (j : Nat) (a b : Nat) (ns : List D) (ρ : Rho) : Prop := ρ = lB3 R Z j (.p (nD a)) (.p (nD b)) (.p (.list ns)) ∨ ∃ d, ρ = lB4 R Z j (.p (nD a)) (.p (nD b)) (.p (.list ns)) d
theorem K_lim (K : QOk (x :: q) known) : ((x :: q).map pairD).length ≤ lim := by have := K.len; rw [List.length_map]; simp only [lim]; omega
theorem K_name (K : QOk (x :: q) known) (d : Nat × Nat) (hd : d ∈ x :: q) : gName σ [.p (nD d.1), .p (nD d.2)] = some (.p (.str [nm d.1 d.2])) := f_name σ d.1 (Nat.lt_succ_of_le (K.row d hd).2.1) d.2 (K.row d hd).2.2
theorem head_run (K : QOk (x :: q) known) (hc : σ[j]? = some (pairD x :: q.map pairD)) {ρ : Rho} (hP : lP R Z j ρ) : ∃ ρ2, lHH R Z σ.length x.1 x.2 (Rows.names (x :: q)) ρ2 ∧ ∀ {y : Option (Fl × Rho × Sto)}, body exLg [lS 3] ρ2 (σ ++ [q.map pairD]) = y → body exLg logB ρ σ = y := by
  have hlq := K_lim K
  have hcmp := K_name (σ := σ) K
  clear K
  rcases hP with rfl | ⟨a, b, c, rfl⟩ | ⟨a, b, c, d, rfl⟩
  · exact ⟨_, .inl rfl, fun hy => b_cons (s := lS 0) (t := [lS 1, lS 2, lS 3]) (s_tgt rfl rfl rfl (e_sub (fun _ _ _ _ h => nomatch h) rfl rfl (sub_own_hd hc)) rfl) (b_cons (s_name rfl rfl rfl (Eq.trans (e_compM (v := .own j) (g := pairD) (l := x :: q) (keep := fun _ => true) (f := fun d => D.str [nm d.1 d.2]) rfl hc (and3 rfl rfl (decide_eq_true hlq)) fun d hd => ⟨_, rfl, rfl, fun _ => e_call rfl rfl rfl (evs_c (fun _ _ h => nomatch h) rfl (evs_c (fun _ _ h => nomatch h) rfl rfl)) (hcmp d hd)⟩) (by rw [filter_tt]; rfl))) (b_cons (s_fresh rfl rfl (e_slice (u := .own j) (x := some 1) (y := none) (z := none) rfl rfl rfl rfl rfl rfl rfl (slice1_own hc hlq))) hy))⟩
  · exact ⟨_, .inl rfl, fun hy => b_cons (s := lS 0) (t := [lS 1, lS 2, lS 3]) (s_tgt rfl rfl rfl (e_sub (fun _ _ _ _ h => nomatch h) rfl rfl (sub_own_hd hc)) rfl) (b_cons (s_name rfl rfl rfl (Eq.trans (e_compM (v := .own j) (g := pairD) (l := x :: q) (keep := fun _ => true) (f := fun d => D.str [nm d.1 d.2]) rfl hc (and3 rfl rfl (decide_eq_true hlq)) fun d hd => ⟨_, rfl, rfl, fun _ => e_call rfl rfl rfl (evs_c (fun _ _ h => nomatch h) rfl (evs_c (fun _ _ h => nomatch h) rfl rfl)) (hcmp d hd)⟩) (by rw [filter_tt]; rfl))) (b_cons (s_fresh rfl rfl (e_slice (u := .own j) (x := some 1) (y := none) (z := none) rfl rfl rfl rfl rfl rfl rfl (slice1_own hc hlq))) hy))⟩
  · exact ⟨_, .inr ⟨_, rfl⟩, fun hy => b_cons (s := lS 0) (t := [lS 1, lS 2, lS 3]) (s_tgt rfl rfl rfl (e_sub (fun _ _ _ _ h => nomatch h) rfl rfl (sub_own_hd hc)) rfl) (b_cons (s_name rfl rfl rfl (Eq.trans (e_compM (v := .own j) (g := pairD) (l := x :: q) (keep := fun _ => true) (f := fun d => D.str [nm d.1 d.2]) rfl hc (and3 rfl rfl (decide_eq_true hlq)) fun d hd => ⟨_, rfl, rfl, fun _ => e_call rfl rfl rfl (evs_c (fun _ _ h => nomatch h) rfl (evs_c (fun _ _ h => nomatch h) rfl rfl)) (hcmp d hd)⟩) (by rw [filter_tt]; rfl))) (b_cons (s_fresh rfl rfl (e_slice (u := .own j) (x := some 1) (y := none) (z := none) rfl rfl rfl rfl rfl rfl rfl (slice1_own hc hlq))) hy))⟩
end
-- E18
section
variable {C : Ctx} {n : Nat} {sc : Sc} {ρ : Rho} {σ : Sto} {p : Pos} {a b : Expr} {c : Bool}
theorem t_and (h1 : (ev C n).t sc ρ σ a = some true) (h2 : (ev C n).t sc ρ σ b = some c) : (ev C (n + 1)).t sc ρ σ (.BoolOp .And [a, b] p) = some c := bd h1 (bd h2 (by cases c <;> rfl))
theorem t_and0 (h1 : (ev C n).t sc ρ σ a = some false) : (ev C (n + 1)).t sc ρ σ (.BoolOp .And [a, b] p) = some false := bd h1 rfl
theorem eq_nil (σ : Sto) (l : List D) : cmpOp C σ .Eq (.p (.list l)) (.p (.list [])) = some l.isEmpty := by cases l <;> rfl
theorem all_nD (l : List Nat) : (l.map nD).all isInt = true := by
  rw [List.all_map]; exact List.all_eq_true.mpr fun _ _ => rfl
theorem any_nD (p : Nat) (l : List Nat) : (l.map nD).any (fun d => D.beq d (nD p)) = l.any (· == p) := by
  rw [List.any_map]
  congr 1
  funext y
  show ((y : Int) == (p : Int)) = (y == p)
  by_cases h : y = p
  · subst h; simp
  · rw [beq_eq_false_iff_ne.mpr h, beq_eq_false_iff_ne.mpr (by omega)]
theorem notin_ok (σ : Sto) (p : Nat) (l : List Nat) : cmpOp C σ .NotIn (.p (nD p)) (.p (.list (l.map nD))) = some (!(l.any (· == p))) := by
  show (if (l.map nD).all isInt then some (((l.map nD).any fun d => D.beq d (nD p)) != true) else none) = _
  rw [all_nD, any_nD]
  cases l.any (· == p) <;> rfl
theorem in_ok (σ : Sto) (p : Nat) (l : List Nat) : cmpOp C σ .In (.p (nD p)) (.p (.list (l.map nD))) = some (l.any (· == p)) := by
  show (if (l.map nD).all isInt then some (((l.map nD).any fun d => D.beq d (nD p)) != false) else none) = _
  rw [all_nD, any_nD]
  cases l.any (· == p) <;> rfl
theorem gt_ok (σ : Sto) (p : Nat) : cmpOp C σ .Gt (.p (nD p)) (.p (.int 1)) = some (!(decide (p ≤ 1))) := by
  show some (decide ((1 : Int) < (p : Int))) = _
  by_cases h : p ≤ 1
  · rw [decide_eq_true h, decide_eq_false (by omega)]; rfl
  · rw [decide_eq_false h, decide_eq_true (by omega)]; rfl
end
noncomputable def kq (known : Q) (d : D) : Bool := match d with
  | .int i => !(inb known i.toNat)
  | _ => false
section
variable {R : Rows} {Z : Dress} {q known : Q} {lg : List D} {x : Nat × Nat} {σ : Sto} {j : Nat}
theorem LSt.new (hS : LSt σ j (x :: q) known lg) : LSt (σ ++ [q.map pairD]) σ.length q known lg := by
  have h8 := hS.len
  exact ⟨get_new _ _, by rw [List.getElem?_append_left (by omega)]; exact hS.known, by rw [List.getElem?_append_left (by omega)]; exact hS.log, by simp; omega, by omega, by omega, by omega⟩
theorem LSt.addLog (hS : LSt σ j q known lg) (e : D) : LSt (σ.set 7 (lg ++ [e])) j q known (lg ++ [e]) := by
  have h8 := hS.len
  exact ⟨by rw [List.getElem?_set_ne (Ne.symm hS.j7)]; exact hS.cur, by rw [List.getElem?_set_ne (by decide)]; exact hS.known, by rw [List.getElem?_set_self (by omega)], by simp; omega, hS.j5, hS.j6, hS.j7⟩
theorem LSt.addKnown (hS : LSt σ j q known lg) (y : Nat × Nat) : LSt (σ.set 6 (known.map pairD ++ [pairD y])) j q (known ++ [y]) lg := by
  have h8 := hS.len
  exact ⟨by rw [List.getElem?_set_ne (Ne.symm hS.j6)]; exact hS.cur, by rw [List.getElem?_set_self (by omega), List.map_append]; rfl, by rw [List.getElem?_set_ne (by decide)]; exact hS.log, by simp; omega, hS.j5, hS.j6, hS.j7⟩
theorem LSt.addLine (hS : LSt σ j q known lg) (y : Nat × Nat) : LSt (σ.set j (q.map pairD ++ [pairD y])) j (q ++ [y]) known lg := by
  have h8 := hS.len
  exact ⟨by rw [List.getElem?_set_self hS.lt, List.map_append]; rfl, by rw [List.getElem?_set_ne hS.j6]; exact hS.known, by rw [List.getElem?_set_ne hS.j7]; exact hS.log, by simp; omega, hS.j5, hS.j6, hS.j7⟩
theorem tl_clean (O : R.Ok) {r : Nat} (h2 : 2 ≤ r) (h6 : r ≤ 6) : ∀ s ∈ R.tl r, s.all (· < 256) = true ∧ s.length ≤ 1000 := by
  intro s hs
  have o1 := (nm_ok (R.fst r) (by have := O.fst r h2 h6; omega) (R.g1 r) (O.g1 _)).2.2
  have o2 := (nm_ok (R.lst r) (by have := O.lst r h2 h6; omega) (R.g2 r) (O.g2 _)).2.2
  have hk : (R.kind r).all (· < 256) = true ∧ (R.kind r).length ≤ 1000 := by
    rcases O.kind r h2 h6 with h | h | h | h <;> rw [h] <;> decide
  have one : ∀ c, c < 256 → ([c] : List Nat).all (· < 256) = true ∧ [c].length ≤ 1000 := fun c hc => ⟨by simp [hc], by simp⟩
  unfold Rows.tl at hs
  split at hs
  · cases hs
  · split at hs
    · rename_i hN
      simp only [List.mem_cons, List.not_mem_nil, or_false] at hs
      rcases hs with rfl | rfl
      · decide
      · exact one _ o1
    · simp only [List.mem_cons, List.not_mem_nil, or_false] at hs
      rcases hs with rfl | rfl | rfl
      · exact hk
      · exact one _ o1
      · exact one _ o2
theorem names_len (q : Q) : (Rows.names q).length = q.length := List.length_map _
end
end
section
open PySem
set_option autoImplicit false
set_option linter.unusedSimpArgs false
set_option linter.unusedVariables false
set_option maxHeartbeats 2000000
set_option maxRecDepth 100000
-- E19
section
variable {R : Rows} {Z : Dress} {q known : Q} {lg : List D} {x : Nat × Nat} {σ : Sto} {j : Nat}
abbrev lH (R : Rows) (Z : Dress) (j : Nat) (q : Q) (x : Nat × Nat) (ρ : Rho) : Prop := ρ = lB3 R Z j (.p (nD x.1)) (.p (nD x.2)) (.p (.list (Rows.names q))) ∨ ∃ d, ρ = lB4 R Z j (.p (nD x.1)) (.p (nD x.2)) (.p (.list (Rows.names q))) d
theorem lH_P {q : Q} {ρ : Rho} (h : lH R Z j q x ρ) : lP R Z j ρ := h.elim (fun h => .inr (.inl ⟨_, _, _, h⟩)) fun ⟨d, h⟩ => .inr (.inr ⟨_, _, _, d, h⟩)
theorem pos_lim {n : Nat} (h : n ≤ 100) : n < lim := by simp only [lim]; omega
theorem pos_lim' {n : Nat} (h : n ≤ 100) : n ≤ lim := by simp only [lim]; omega
theorem eq7_ok {C : Ctx} (σ : Sto) {r : Nat} (h : r ≠ 7) : cmpOp C σ .Eq (.p (nD r)) (.p (.int 7)) = some false := by
  show some (((r : Int) == 7) != false) = _
  rw [beq_eq_false_iff_ne.mpr (by omega)]; rfl
theorem sub1_ok (σ : Sto) {g : Nat} (h : g < 2) : binop σ .Sub (.p (.int 1)) (.p (nD g)) = some (.p (nD (1 - g))) := by
  rcases (by decide +kernel : ∀ g < 2, g = 0 ∨ g = 1) g h with rfl | rfl <;> rfl
theorem iter_ok {C : Ctx} {n : Nat} {sc : Sc} {ρ : Rho} {σ : Sto} {R : Rows} {r : Nat} {x y : Expr} {k k' : _} {p3 p4 p5 p6 p7 p8 : Pos} (h2 : 2 ≤ r) (h6 : r ≤ 6) (hd : (ev C (n + 2)).e sc ρ σ x = some (.p (.list (defsD R)))) (hr : (ev C (n + 1)).e sc ρ σ y = some (.p (nD r))) :
    (ev C (n + 4)).e sc ρ σ (.Subscript (.Subscript x (.BinOp y .Sub (.Constant (.int 2) k p3) p4) p5) (.Slice (some (.Constant (.int 1) k' p6)) none none p7) p8) = some (.p (.tuple [nD (R.fst r), nD (R.lst r)])) := by
  have h := (by decide +kernel : ∀ r < 7, 2 ≤ r → r = 2 ∨ r = 3 ∨ r = 4 ∨ r = 5 ∨ r = 6) r (Nat.lt_succ_of_le h6) h2
  have e : subV C σ (.p (.list (defsD R))) (.p (.int ((r : Int) - 2))) = some (.p (defD R r)) := by rcases h with rfl | rfl | rfl | rfl | rfl <;> rfl
  exact e_slice (u := .p (defD R r)) (a := .p (.int 1)) (b := .p .none) (c := .p .none) (e_sub (fun _ _ _ _ h => nomatch h) hd (e_bin hr rfl rfl) e) rfl rfl rfl rfl rfl rfl rfl
theorem kq_nD (known : Q) (p : Nat) : kq known (nD p) = !(inb known p) := rfl
theorem kq_test (known : Q) (a b : Nat) : ((([nD a, nD b] : List D).filter (kq known)).map fun d => d).isEmpty = (inb known a && inb known b) := by
  rw [List.filter_cons, List.filter_cons, kq_nD, kq_nD]
  cases inb known a <;> cases inb known b <;> rfl
theorem known_any (known : Q) (p : Nat) : (known.map fun y : Nat × Nat => y.1).any (· == p) = known.any (·.1 == p) := by rw [List.any_map]; rfl
set_option backward.match.sparseCases false in
noncomputable def sEls : Stmt → List Stmt
  | .If _ _ e _ => e
  | _ => []
set_option backward.match.sparseCases false in
noncomputable def sTest : Stmt → Expr
  | .If t _ _ _ => t
  | _ => .Name "" ⟨0, 0, 0, 0⟩
noncomputable abbrev rA : Stmt := lS 3
noncomputable def rE (k : Nat) : Stmt := (sEls rA).getD k (.Pass ⟨0, 0, 0, 0⟩)
section
variable {ρ : Rho} {r g : Nat} {ns : List D}
theorem go_not7 (hr7 : r ≠ 7) (hρ : ρ = lB3 R Z j (.p (nD r)) (.p (nD g)) (.p (.list ns)) ∨ ∃ d, ρ = lB4 R Z j (.p (nD r)) (.p (nD g)) (.p (.list ns)) d) : (ev (cA fn4) 24).t (fnAt 36).sc ρ σ (sTest rA) = some false := by
  rcases hρ with rfl | ⟨d, rfl⟩
  · exact t_cmp rfl rfl (eq7_ok _ hr7)
  · exact t_cmp rfl rfl (eq7_ok _ hr7)
theorem tl3 (R : Rows) (r : Nat) : (R.tl r).length ≤ 3 := by
  unfold Rows.tl; split
  · decide
  · split <;> simp
theorem go_words (O : R.Ok) (h2 : 2 ≤ r) (h6 : r ≤ 6) (hρ : ρ = lB3 R Z j (.p (nD r)) (.p (nD g)) (.p (.list ns)) ∨ ∃ d, ρ = lB4 R Z j (.p (nD r)) (.p (nD g)) (.p (.list ns)) d) : ex (cA fn4) 24 ["line", "known", "log"] 5 5 6 (fnAt 36).sc ρ σ (rE 0) = some (.next, lB4 R Z j (.p (nD r)) (.p (nD g)) (.p (.list ns)) (.p (.list ((R.tl r).map D.bytes))), σ) := by
  have hw := words_ok (Z := Z) O σ r h2 h6
  have hcl := tl_clean O h2 h6
  have htl : decide (((R.tl r).map D.str).length ≤ lim) = true := decide_eq_true (by rw [List.length_map]; exact pos_lim' (Nat.le_trans (tl3 R r) (by decide)))
  have hsl : ∀ s ∈ R.tl r, decide ((s.map fun c => D.str [c]).length ≤ lim) = true := fun s hs => decide_eq_true (by rw [List.length_map]; exact Nat.le_trans (hcl s hs).2 (by decide))
  have hby : ∀ s ∈ R.tl r, bytesV (look meths) σ [.p (.list (s.map fun (c : Nat) => D.int c))] = some (.p (.bytes s)) := fun s hs => bytes_list _ σ (hcl s hs).1 (Nat.le_trans (hcl s hs).2 (by decide))
  clear hcl
  rcases hρ with rfl | ⟨d, rfl⟩
  all_goals
    exact s_name rfl rfl rfl (Eq.trans (e_compM (v := .p (.list (wordsD R _))) (g := D.str) (l := R.tl _) (keep := fun _ => true) (f := D.bytes) (e_call rfl rfl rfl (evs_c (fun _ _ h => nomatch h) rfl (evs_c (fun _ _ h => nomatch h) rfl (evs_c (fun _ _ h => nomatch h) rfl rfl))) hw) rfl (and3 rfl rfl htl) fun s hs => ⟨_, rfl, rfl, fun _ => e_call rfl rfl rfl (evs_c (fun _ _ h => nomatch h) (Eq.trans (e_compM (v := .p (.str s)) (g := fun c => D.str [c]) (l := s) (keep := fun _ => true) (f := fun (c : Nat) => D.int c) rfl rfl (and3 rfl rfl (hsl s hs)) fun c hc => ⟨_, rfl, rfl, fun _ => e_call rfl rfl rfl (evs_c (fun _ _ h => nomatch h) rfl rfl) rfl⟩) (by rw [filter_tt])) rfl) (hby s hs)⟩) (by rw [filter_tt]))
theorem go_log {b : List D} (hlog : σ[7]? = some lg) (hl : lg.length ≤ 30) (hb : b.length ≤ 100) (hn : ns.length ≤ 100) : ex (cA fn4) 24 ["line", "known", "log"] 5 5 6 (fnAt 36).sc (lB4 R Z j (.p (nD r)) (.p (nD g)) (.p (.list ns)) (.p (.list b))) σ (rE 1) = some (.next, lB4 R Z j (.p (nD r)) (.p (nD g)) (.p (.list ns)) (.p (.list b)), σ.set 7 (lg ++ [.tuple [.tuple b, .list ns, .int (ns.length : Nat)]])) := by
  have hlen := len_list (look meths) σ (l := ns) (pos_lim' hn)
  have htu : tupleV σ [.p (.list b)] = some (.p (.tuple b)) := gd (decide_eq_true (pos_lim' hb)) rfl
  exact s_appendE (j := 7) (l0 := lg) rfl rfl rfl (evA_e rfl (e_tuple rfl (evs_c (fun _ _ h => nomatch h) (e_call rfl rfl rfl (evs_c (fun _ _ h => nomatch h) rfl rfl) htu) (evs_c (fun _ _ h => nomatch h) rfl (evs_c (fun _ _ h => nomatch h) (e_call rfl rfl rfl (evs_c (fun _ _ h => nomatch h) rfl rfl) hlen) rfl))) rfl)) (by decide) hlog (pos_lim (Nat.le_trans hl (by decide))) rfl
theorem go_test {d : V} (h2 : 2 ≤ r) (h6 : r ≤ 6) (hkn : σ[6]? = some (known.map pairD)) (hk : known.length ≤ 100) : (ev (cA fn4) 24).t (fnAt 36).sc (lB4 R Z j (.p (nD r)) (.p (nD g)) (.p (.list ns)) d) σ (sTest (rE 2)) = some (inb known (R.fst r) && inb known (R.lst r)) := by
  have hkl : decide ((known.map pairD).length ≤ lim) = true := decide_eq_true (by rw [List.length_map]; exact pos_lim' hk)
  have hni : ∀ p, cmpOp (cA fn4) σ .NotIn (.p (nD p)) (.p (.list (known.map fun y : Nat × Nat => nD y.1))) = some (!(known.any (·.1 == p))) := fun p => by
    have := notin_ok (C := cA fn4) σ p (known.map fun y : Nat × Nat => y.1)
    rw [List.map_map, known_any] at this
    exact this
  refine t_cmp (e_comp (v := .p (.tuple [nD (R.fst r), nD (R.lst r)])) (ll := [nD (R.fst r), nD (R.lst r)]) (keep := kq known) (f := fun d => d) (iter_ok h2 h6 rfl rfl) rfl (and3 rfl rfl rfl) fun d hd => ?_) rfl ((eq_nil _ _).trans (congrArg some (kq_test known (R.fst r) (R.lst r))))
  obtain ⟨p, rfl⟩ : ∃ p, d = nD p := (List.mem_cons.mp hd).elim (fun e => ⟨_, e⟩) fun e => ⟨_, List.mem_singleton.mp e⟩
  exact ⟨_, rfl, by
    cases hp : decide (p ≤ 1) with
    | true => exact ifs1 (Eq.trans (t_and0 (t_cmp rfl rfl (by rw [gt_ok, hp]; rfl))) (by rw [kq_nD, inb, hp]; rfl))
    | false => exact ifs1 (Eq.trans (t_and (t_cmp rfl rfl (by rw [gt_ok, hp]; rfl)) (t_cmp rfl (Eq.trans (e_compM (v := .own 6) (g := pairD) (l := known) (keep := fun _ => true) (f := fun y => nD y.1) rfl hkn (and3 rfl rfl hkl) fun d hd => ⟨_, rfl, rfl, fun _ => rfl⟩) (by rw [filter_tt])) (hni p))) (by rw [kq_nD, inb, hp]; rfl)), fun _ => rfl⟩
end
theorem ne7 {n : Nat} (h : n ≤ 6) : n ≠ 7 := fun e => absurd (e ▸ h) (by decide)
theorem ready_eq {R : Rows} {r : Nat} (known : Q) (h : r ≤ 6) : R.ready known r = (inb known (R.fst r) && inb known (R.lst r)) := by
  unfold Rows.ready; rw [show (r == 7) = false from beq_eq_false_iff_ne.mpr (ne7 h), Bool.false_or]
theorem entry_eq (R : Rows) (x : Nat × Nat) (q : Q) : R.entry (x :: q) = .tuple [.tuple ((R.tl x.1).map .bytes), .list (Rows.names (x :: q)), .int ((Rows.names (x :: q)).length : Nat)] := by
  unfold Rows.entry; rw [names_len]; rfl
theorem tlb (R : Rows) (r : Nat) : ((R.tl r).map D.bytes).length ≤ 100 := by rw [List.length_map]; exact Nat.le_trans (tl3 R r) (by decide)
theorem qsum {n m : Nat} (h : n + 1 + m ≤ 6) : n + 1 ≤ 100 ∧ n ≤ 100 ∧ m ≤ 100 := by omega
theorem r7_log {ρ : Rho} {ns : List D} {g : Nat} (hlog : σ[7]? = some lg) (hl : lg.length ≤ 30) (hn : ns.length ≤ 100) (hρ : ρ = lB3 R Z j (.p (nD 7)) (.p (nD g)) (.p (.list ns)) ∨ ∃ d, ρ = lB4 R Z j (.p (nD 7)) (.p (nD g)) (.p (.list ns)) d) : ex (cA fn4) 24 ["line", "known", "log"] 5 5 7 (fnAt 36).sc ρ σ rA = some (.next, ρ, σ.set 7 (lg ++ [.tuple [.tuple [], .list ns, .int (ns.length : Nat)]])) := by
  have hlen := len_list (look meths) σ (l := ns) (pos_lim' hn)
  have hlg := pos_lim (Nat.le_trans hl (by decide))
  rcases hρ with rfl | ⟨d, rfl⟩
  all_goals exact s_if_t (t_cmp rfl rfl rfl) (b_cons (s_appendE (j := 7) (l0 := lg) rfl rfl rfl (evA_e rfl (e_tuple rfl (evs_c (fun _ _ h => nomatch h) rfl (evs_c (fun _ _ h => nomatch h) rfl (evs_c (fun _ _ h => nomatch h) (e_call rfl rfl rfl (evs_c (fun _ _ h => nomatch h) rfl rfl) hlen) rfl))) rfl)) (by decide) hlog hlg rfl) b_nil)
theorem round7 (O : R.Ok) (K : QOk (x :: q) known) (hS : LSt σ j q known lg) (hl : lg.length ≤ 30) (h7 : x.1 = 7) {ρ : Rho} (hρ : lH R Z j (x :: q) x ρ) :
    body exLg [lS 3] ρ σ = some (.next, ρ, σ.set 7 (lg ++ [R.entry (x :: q)])) := by
  have ee : R.entry (x :: q) = .tuple [.tuple [], .list (Rows.names (x :: q)), .int ((Rows.names (x :: q)).length : Nat)] := by
    rw [entry_eq, show R.tl x.1 = [] by unfold Rows.tl; rw [h7]; rfl]; rfl
  rw [ee]
  unfold lH at hρ
  rw [h7] at hρ
  exact b_cons (r7_log hS.log hl (by rw [names_len]; exact (qsum K.sum).1) hρ) b_nil
theorem round_go (O : R.Ok) (K : QOk (x :: q) known) (hS : LSt σ j q known lg) (hj : 8 ≤ j) (hl : lg.length ≤ 30) (h6 : x.1 ≤ 6) (hr : R.ready known x.1 = true) {ρ : Rho} (hρ : lH R Z j (x :: q) x ρ) :
    ∃ d, body exLg [lS 3] ρ σ = some (.next, lB4 R Z j (.p (nD x.1)) (.p (nD x.2)) (.p (.list (Rows.names (x :: q)))) d, (σ.set 7 (lg ++ [R.entry (x :: q)])).set 6 (known.map pairD ++ [pairD x])) := by
  obtain ⟨ha, hb, hc⟩ := K.row x List.mem_cons_self
  obtain ⟨q1, q2, q3⟩ := qsum K.sum
  have hS2 := hS.addLog (R.entry (x :: q))
  have ht := go_test (R := R) (Z := Z) (j := j) (g := x.2) (ns := Rows.names (x :: q)) (d := .p (.list ((R.tl x.1).map D.bytes))) ha h6 hS2.known q3
  rw [← ready_eq known h6, hr] at ht
  rw [entry_eq] at ht hS2 ⊢
  exact ⟨_, b_cons (s_if_f (go_not7 (ne7 h6) hρ) (b_cons (go_words O ha h6 hρ) (b_cons (go_log hS.log hl (tlb R _) (by rw [names_len]; exact q1)) (b_cons (s_if_t ht (b_cons (s_appendE (j := 6) (l0 := known.map pairD) rfl rfl rfl (evA_e rfl (e_tuple rfl (evs_c (fun _ _ h => nomatch h) rfl (evs_c (fun _ _ h => nomatch h) rfl rfl)) rfl)) (by decide) hS2.known (by rw [List.length_map]; exact pos_lim q3) rfl) b_nil)) b_nil)))) b_nil⟩
theorem round_wait (O : R.Ok) (K : QOk (x :: q) known) (hS : LSt σ j q known lg) (hj : 8 ≤ j) (hl : lg.length ≤ 30) (h6 : x.1 ≤ 6) (hr : R.ready known x.1 = false) {ρ : Rho} (hρ : lH R Z j (x :: q) x ρ) :
    ∃ d, body exLg [lS 3] ρ σ = some (.next, lB4 R Z j (.p (nD x.1)) (.p (nD x.2)) (.p (.list (Rows.names (x :: q)))) d, (σ.set 7 (lg ++ [R.entry (x :: q)])).set j (q.map pairD ++ [pairD (x.1, 1 - x.2)])) := by
  obtain ⟨ha, hb, hc⟩ := K.row x List.mem_cons_self
  obtain ⟨q1, q2, q3⟩ := qsum K.sum
  have hS2 := hS.addLog (R.entry (x :: q))
  have ht := go_test (R := R) (Z := Z) (j := j) (g := x.2) (ns := Rows.names (x :: q)) (d := .p (.list ((R.tl x.1).map D.bytes))) ha h6 hS2.known q3
  rw [← ready_eq known h6, hr] at ht
  rw [entry_eq] at ht hS2 ⊢
  exact ⟨_, b_cons (s_if_f (go_not7 (ne7 h6) hρ) (b_cons (go_words O ha h6 hρ) (b_cons (go_log hS.log hl (tlb R _) (by rw [names_len]; exact q1)) (b_cons (s_if_f ht (b_cons (s_appendE (j := j) (l0 := q.map pairD) rfl rfl rfl (evA_e rfl (e_tuple rfl (evs_c (fun _ _ h => nomatch h) rfl (evs_c (fun _ _ h => nomatch h) (e_bin rfl rfl (sub1_ok _ hc)) rfl)) rfl)) (Nat.le_trans (by decide) hj) hS2.cur (by rw [List.length_map]; exact pos_lim q2) rfl) b_nil)) b_nil)))) b_nil⟩
end
end
section
open PySem
set_option autoImplicit false
set_option linter.unusedSimpArgs false
set_option linter.unusedVariables false
set_option maxHeartbeats 1000000
set_option maxRecDepth 100000
-- E20
section
variable {R : Rows} {Z : Dress} {q known : Q} {lg : List D} {x : Nat × Nat} {σ : Sto} {j : Nat}
theorem le6_of {n : Nat} (h : n ≤ 7) (h7 : n ≠ 7) : n ≤ 6 := Nat.le_of_lt_succ (Nat.lt_of_le_of_ne h h7)
theorem round_ok (O : R.Ok) (K : QOk (x :: q) known) (hS : LSt σ j (x :: q) known lg) (hl : lg.length ≤ 30) {ρ : Rho} (hP : lP R Z j ρ) :
    ∃ ρ3 σ3 j3, lP R Z j3 ρ3 ∧ LSt σ3 j3 (R.step x q known).1 (R.step x q known).2 (lg ++ [R.entry (x :: q)]) ∧ body exLg logB ρ σ = some (.next, ρ3, σ3) := by
  obtain ⟨ρ2, h2, go⟩ := head_run (Z := Z) K hS.cur hP
  have hS1 := hS.new
  have hS2 := hS1.addLog (R.entry (x :: q))
  by_cases h7 : x.1 = 7
  · rw [show R.step x q known = (q, known) by unfold Rows.step Rows.ready; rw [h7]; rfl]
    exact ⟨ρ2, _, σ.length, lH_P h2, hS2, go (round7 O K hS1 hl h7 h2)⟩
  · have h6 := le6_of (K.row x List.mem_cons_self).2.1 h7
    cases hr : R.ready known x.1 with
    | true =>
      rw [show R.step x q known = (q, known ++ [x]) by unfold Rows.step; rw [hr, beq_eq_false_iff_ne.mpr h7]; rfl]
      obtain ⟨d, e⟩ := round_go O K hS1 hS.len hl h6 hr h2
      exact ⟨_, _, σ.length, .inr (.inr ⟨_, _, _, d, rfl⟩), hS2.addKnown x, go e⟩
    | false =>
      rw [show R.step x q known = (q ++ [(x.1, 1 - x.2)], known) by unfold Rows.step; rw [hr]; rfl]
      obtain ⟨d, e⟩ := round_wait O K hS1 hS.len hl h6 hr h2
      exact ⟨_, _, σ.length, .inr (.inr ⟨_, _, _, d, rfl⟩), hS2.addLine (x.1, 1 - x.2), go e⟩
theorem log_t {q : Q} (hS : LSt σ j q known lg) {ρ : Rho} (hP : lP R Z j ρ) : (ev (cA fn4) 24).t (fnAt 36).sc ρ σ logT = some (!(q.map pairD).isEmpty) := by
  rcases hP with rfl | ⟨a, b, c, rfl⟩ | ⟨a, b, c, d, rfl⟩ <;> exact t_cmp rfl rfl (ne_own hS.cur)
noncomputable def LogW (R : Rows) (Z : Dress) (kf : Q) (lg log : List D) (r : Option (Fl × Rho × Sto)) : Prop := ∃ ρ' σ' j' log', log = log' ++ [R.entry []] ∧ lP R Z j' ρ' ∧ LSt σ' j' [] kf (lg ++ log') ∧ r = some (.next, ρ', σ')
theorem len_step {l : List D} {e : D} {n : Nat} (h : l.length + (n + 1) ≤ 30) : (l ++ [e]).length + n ≤ 30 := by rw [List.length_append, Nat.add_assoc, Nat.add_comm [e].length n]; exact h
theorem len_now {l n : Nat} (h : l + (n + 1) ≤ 30) : l ≤ 30 := Nat.le_of_add_right_le h
theorem log_loop (O : R.Ok) (n : Nat) : ∀ (m : Nat), n ≤ m → ∀ (q known : Q) (lg : List D) (ρ : Rho) (σ : Sto) (j : Nat), QOk q known → LSt σ j q known lg → lP R Z j ρ → lg.length + n ≤ 30 → ∀ log kf, R.trc n q known = some (log, kf) →
    LogW R Z kf lg log (whileGo (fun ρ σ => (ev (cA fn4) 24).t (fnAt 36).sc ρ σ logT) (fun ρ σ => body exLg logB ρ σ) m ρ σ) := by
  induction n with
  | zero => exact fun _ _ _ _ _ _ _ _ _ _ _ _ _ _ h => nomatch h
  | succ n ih =>
    intro m hnm q known lg ρ σ j K hS hP hl log kf h
    cases m with
    | zero => exact absurd hnm (Nat.not_succ_le_zero n)
    | succ m =>
      cases q with
      | nil =>
        cases h
        exact ⟨ρ, σ, j, [], rfl, hP, (List.append_nil lg).symm ▸ hS, Mine.bd (log_t hS hP) rfl⟩
      | cons x q =>
        obtain ⟨⟨log1, kf1⟩, h1, h2⟩ := Option.map_eq_some_iff.mp h
        obtain ⟨rfl, rfl⟩ := Prod.mk.inj h2
        obtain ⟨ρ3, σ3, j3, hP3, hS3, e3⟩ := round_ok (Z := Z) O K hS (len_now hl) hP
        obtain ⟨ρ', σ', j', log', e1, hP', hS', e4⟩ := ih m (Nat.le_of_succ_le_succ hnm) _ _ (lg ++ [R.entry (x :: q)]) ρ3 σ3 j3 (step_ok O K) hS3 hP3 (len_step hl) _ _ h1
        exact ⟨ρ', σ', j', R.entry (x :: q) :: log', congrArg (R.entry (x :: q) :: ·) e1, hP', by rw [List.append_assoc] at hS'; exact hS', Mine.bd (log_t hS hP) (Mine.bd e3 e4)⟩
theorem frz_own' {z : Nat} {l : List D} (h : σ[j]? = some l) (hz : z ≤ j) : frozen σ z (.own j) = .p (.list l) := by
  show (if z ≤ j then ((σ[j]?).map fun l => V.p (.list l)).getD .any else V.own j) = _
  rw [if_pos hz, h]; rfl
theorem trc_len : ∀ (n : Nat) (q known : Q) (log : List D) (kf : Q), R.trc n q known = some (log, kf) → log.length ≤ n := by
  intro n
  induction n with
  | zero => exact fun _ _ _ _ h => nomatch h
  | succ n ih =>
    intro q known log kf h
    cases q with
    | nil => cases h; exact Nat.succ_le_succ (Nat.zero_le n)
    | cons x q =>
      obtain ⟨⟨l1, k1⟩, h1, h2⟩ := Option.map_eq_some_iff.mp h
      obtain ⟨rfl, rfl⟩ := Prod.mk.inj h2
      exact Nat.succ_le_succ (ih _ _ _ _ h1)
theorem log_ret {ρ : Rho} {log : List D} {kf : Q} (hP : lP R Z j ρ) (hlog : σ[7]? = some log) (hk : σ[6]? = some (kf.map pairD)) (hl : log.length ≤ 30) : ex (cA fn4) 24 ["line", "known", "log"] 5 5 8 (fnAt 36).sc ρ σ ((fnAt 36).bd.getD 4 (.Pass ⟨0, 0, 0, 0⟩)) = some (.ret (.p (.tuple [.list (log ++ [R.entry []]), .list (kf.map pairD)])), ρ, σ) := by
  have hadd : binop (σ.take 5) .Add (.p (.list log)) (.p (.list [R.entry []])) = some (.p (.list (log ++ [R.entry []]))) := gd (decide_eq_true (pos_lim' (Nat.le_trans (Nat.succ_le_succ hl) (by decide)))) rfl
  have f7 := frz_own' (z := 5) hlog (by decide)
  have f6 := frz_own' (z := 5) hk (by decide)
  refine s_ret ?_
  rcases hP with rfl | ⟨a', b', c', rfl⟩ | ⟨a', b', c', d', rfl⟩
  all_goals exact e_tuple rfl (evs_c (fun _ _ h => nomatch h) (e_bin (w := .p (.list [R.entry []])) (congrArg some f7) rfl hadd) (evs_c (fun _ _ h => nomatch h) (congrArg some f6) rfl)) rfl
theorem row_cases : ∀ r < 8, 2 ≤ r → r = 2 ∨ r = 3 ∨ r = 4 ∨ r = 5 ∨ r = 6 ∨ r = 7 := by decide +kernel
theorem log_start (O : R.Ok) {line : List Nat} (K : QOk (line.map fun r => (r, Z.gr r)) []) (r : Nat) (hr : r ∈ line) : r = 2 ∨ r = 3 ∨ r = 4 ∨ r = 5 ∨ r = 6 ∨ r = 7 :=
  have := K.row (r, Z.gr r) (List.mem_map.mpr ⟨r, hr, rfl⟩)
  row_cases r (Nat.lt_succ_of_le this.2.1) this.1
theorem log_ok (O : R.Ok) {line : List Nat} (K : QOk (line.map fun r => (r, Z.gr r)) []) {log : List D} {kf : Q} (h : R.trc 18 (line.map fun r => (r, Z.gr r)) [] = some (log, kf)) (a b c d : List D) :
    gLog [line.map nD, a, b, c, d] [.own 0, .p (.list (defsD R)), .p (.list (dressD R Z))] = some (.p (.tuple [.list log, .list (kf.map pairD)])) := by
  have hrow := log_start O K
  have hlen : line.length ≤ 6 := by have := K.len; rwa [List.length_map] at this
  have hll : decide ((line.map nD).length ≤ lim) = true := decide_eq_true (by rw [List.length_map]; exact pos_lim' (Nat.le_trans hlen (by decide)))
  have hS : LSt [line.map nD, a, b, c, d, line.map (fun r => pairD (r, Z.gr r)), [], []] 5 (line.map fun r => (r, Z.gr r)) [] [] :=
    ⟨by rw [List.map_map]; rfl, rfl, rfl, Nat.le_refl 8, by decide, by decide, by decide⟩
  obtain ⟨ρ', σ', j', log', elog, hP', hS', ew⟩ := log_loop (Z := Z) O 18 64 (by decide) _ [] [] (lB R Z 5) _ 5 K hS (.inl rfl) (by decide) log kf h
  have h1 := trc_len 18 _ _ _ _ h
  rw [elog, List.length_append] at h1
  rw [elog]
  exact run_PE (σ' := σ') rfl (b_consX (s_fresh rfl rfl (Eq.trans (e_compM (v := .own 0) (g := nD) (l := line) (keep := fun _ => true) (f := fun r => pairD (r, Z.gr r)) rfl rfl (and3 rfl rfl hll) fun r hr => ⟨_, rfl, rfl, fun _ => by
    rcases hrow r hr with rfl | rfl | rfl | rfl | rfl | rfl <;> rfl⟩) (by rw [filter_tt]))) (b_consX (s_fresh rfl rfl rfl) (b_consX (s_fresh rfl rfl rfl) (b_consX (s_while ew) ⟨ρ', b_ret (log_ret hP' hS'.log hS'.known (Nat.le_trans (Nat.le_of_add_right_le h1) (by decide)))⟩))))
end
end
section
open PySem
set_option autoImplicit false
set_option linter.unusedSimpArgs false
set_option linter.unusedVariables false
set_option maxRecDepth 100000
-- E21
section
variable {R : Rows}
theorem inb_mono {known known' : Q} (h : ∀ y ∈ known, y ∈ known') {p : Nat} (e : inb known p = true) : inb known' p = true := by
  unfold inb at e ⊢
  rw [Bool.or_eq_true] at e ⊢
  refine e.imp id fun e => ?_
  obtain ⟨y, hy, q⟩ := List.any_eq_true.mp e
  exact List.any_eq_true.mpr ⟨y, h y hy, q⟩
theorem ready_mono {known known' : Q} (h : ∀ y ∈ known, y ∈ known') {r : Nat} (e : R.ready known r = true) : R.ready known' r = true := by
  unfold Rows.ready at e ⊢
  rw [Bool.or_eq_true, Bool.and_eq_true] at e ⊢
  exact e.imp id fun ⟨a, b⟩ => ⟨inb_mono h a, inb_mono h b⟩
theorem trc_le : ∀ {n m : Nat} {q known : Q}, n ≤ m → (R.trc n q known).isSome = true → (R.trc m q known).isSome = true
  | 0, _, _, _, _, h => by cases h
  | n + 1, 0, _, _, h, _ => absurd h (by omega)
  | n + 1, m + 1, [], _, _, _ => rfl
  | n + 1, m + 1, x :: q, known, hnm, h => by
    simp only [Rows.trc, Option.isSome_map] at h ⊢
    exact trc_le (by omega) h
theorem pass (O : R.Ok) (n : Nat) : ∀ (l w known : Q), QOk (l ++ w) known →
    (∀ w' known', QOk w' known' → (∀ x ∈ w', (∃ y ∈ w, y.1 = x.1) ∨ ∃ y ∈ l, y.1 = x.1 ∧ R.ready known y.1 = false) → (∀ y ∈ known, y ∈ known') → (∀ x ∈ w, ∃ y ∈ w', y.1 = x.1) →
      (∀ x ∈ l, x.1 = 7 ∨ (∃ y ∈ known', y.1 = x.1) ∨ ∃ y ∈ w', y.1 = x.1) → (∀ x ∈ l, R.ready known x.1 = true → x.1 = 7 ∨ ∃ y ∈ known', y.1 = x.1) → (R.trc n w' known').isSome = true) →
    (R.trc (n + l.length) (l ++ w) known).isSome = true
  | [], w, known, K, h => h w known K (fun x hx => .inl ⟨x, hx, rfl⟩) (fun _ h => h) (fun x hx => ⟨x, hx, rfl⟩) (fun _ h => by cases h) fun _ h => by cases h
  | x :: l, w, known, K, h => by
    have K1 := step_ok O K
    have e : n + (x :: l).length = (n + l.length) + 1 := by simp only [List.length_cons]; omega
    rw [e]
    show (R.trc (n + l.length + 1) (x :: (l ++ w)) known).isSome = true
    simp only [Rows.trc, Option.isSome_map]
    unfold Rows.step at K1 ⊢
    split
    · rename_i hr
      rw [if_pos hr] at K1
      dsimp only at K1 ⊢
      have hk : ∀ y ∈ known, y ∈ (if (x.1 == 7) = true then known else known ++ [x]) := fun y hy => by
        split
        · exact hy
        · exact List.mem_append_left _ hy
      refine pass O n l w _ K1 fun w' known' K' a b c d e => h w' known' K' (fun z hz => ?_) (fun y hy => b y (hk y hy)) c (fun z hz => ?_) fun z hz hrz => ?_
      · rcases a z hz with q | ⟨y, hy, q1, q2⟩
        · exact .inl q
        · refine .inr ⟨y, List.mem_cons_of_mem _ hy, q1, ?_⟩
          cases hq : R.ready known y.1 with
          | false => rfl
          | true => rw [ready_mono hk hq] at q2; cases q2
      · rcases List.mem_cons.mp hz with rfl | hz
        · by_cases h7 : z.1 = 7
          · exact .inl h7
          · exact .inr (.inl ⟨z, b z (by rw [if_neg (by simpa using h7)]; simp), rfl⟩)
        · exact d z hz
      · rcases List.mem_cons.mp hz with rfl | hz
        · by_cases h7 : z.1 = 7
          · exact .inl h7
          · exact .inr ⟨z, b z (by rw [if_neg (by simpa using h7)]; simp), rfl⟩
        · exact e z hz (ready_mono hk hrz)
    · rename_i hr
      rw [if_neg hr] at K1
      dsimp only at K1 ⊢
      rw [show l.append w = l ++ w from rfl, List.append_assoc] at K1
      rw [List.append_assoc]
      refine pass O n l (w ++ [(x.1, 1 - x.2)]) known K1 fun w' known' K' a b c d e => h w' known' K' (fun z hz => ?_) b (fun z hz => c z (List.mem_append_left _ hz)) (fun z hz => ?_) fun z hz hrz => ?_
      · rcases a z hz with ⟨y, hy, q⟩ | ⟨y, hy, q1, q2⟩
        · rcases List.mem_append.mp hy with hy | hy
          · exact .inl ⟨y, hy, q⟩
          · rw [List.mem_singleton] at hy; subst hy
            exact .inr ⟨x, List.mem_cons_self, q, by simpa using hr⟩
        · exact .inr ⟨y, List.mem_cons_of_mem _ hy, q1, q2⟩
      · rcases List.mem_cons.mp hz with rfl | hz
        · exact .inr (.inr (c (z.1, 1 - z.2) (by simp)))
        · exact d z hz
      · rcases List.mem_cons.mp hz with rfl | hz
        · exact absurd hrz hr
        · exact e z hz hrz
structure Lev (R : Rows) (k : Nat) (q known : Q) : Prop where
  ok : QOk q known
  low : ∀ r, 2 ≤ r → r < k → ∃ y ∈ known, y.1 = r
  all : ∀ r, 2 ≤ r → r ≤ 6 → (∃ y ∈ known, y.1 = r) ∨ ∃ y ∈ q, y.1 = r
  q : ∀ x ∈ q, (k ≤ x.1 ∧ x.1 ≤ 6) ∨ (k = 2 ∧ x.1 = 7)
theorem ready_low (O : R.Ok) {k : Nat} {q known : Q} (L : Lev R k q known) (h2 : 2 ≤ k) (h6 : k ≤ 6) : R.ready known k = true := by
  have inb_lt : ∀ p, p < k → inb known p = true := fun p hp => by
    unfold inb
    by_cases h1 : p ≤ 1
    · rw [decide_eq_true h1]; rfl
    · obtain ⟨y, hy, e⟩ := L.low p (by omega) hp
      rw [Bool.or_eq_true]
      exact .inr (List.any_eq_true.mpr ⟨y, hy, by simp [e]⟩)
  unfold Rows.ready
  rw [inb_lt _ (O.fst k h2 h6), inb_lt _ (O.lst k h2 h6), Bool.and_self, Bool.or_true]
theorem lev_next (O : R.Ok) {n k : Nat} {q known : Q} (L : Lev R k q known) (h2 : 2 ≤ k) (h6 : k ≤ 6) (h : ∀ q' known', Lev R (k + 1) q' known' → (R.trc n q' known').isSome = true) : (R.trc (n + q.length) q known).isSome = true := by
  have := pass O n q [] known (by rw [List.append_nil]; exact L.ok) fun w' known' K' a b c d e => h w' known' ⟨K', fun r hr2 hrk => ?_, fun r hr2 hr6 => ?_, fun x hx => ?_⟩
  · rwa [List.append_nil] at this
  · by_cases hk : r < k
    · obtain ⟨y, hy, q⟩ := L.low r hr2 hk
      exact ⟨y, b y hy, q⟩
    · have : r = k := by omega
      subst this
      rcases L.all r hr2 h6 with ⟨y, hy, q⟩ | ⟨y, hy, q⟩
      · exact ⟨y, b y hy, q⟩
      · rcases e y hy (q ▸ ready_low O L h2 h6) with q7 | ⟨z, hz, qz⟩
        · omega
        · exact ⟨z, hz, qz.trans q⟩
  · rcases L.all r hr2 hr6 with ⟨y, hy, q⟩ | ⟨y, hy, q⟩
    · exact .inl ⟨y, b y hy, q⟩
    · rcases d y hy with q7 | ⟨z, hz, qz⟩ | ⟨z, hz, qz⟩
      · omega
      · exact .inl ⟨z, hz, qz.trans q⟩
      · exact .inr ⟨z, hz, qz.trans q⟩
  · rcases a x hx with ⟨y, hy, _⟩ | ⟨y, hy, q, hr⟩
    · cases hy
    · rcases L.q y hy with ⟨h1, h1'⟩ | ⟨_, h7⟩
      · refine .inl ⟨?_, by omega⟩
        have : y.1 ≠ k := fun e => by rw [e, ready_low O L h2 h6] at hr; cases hr
        omega
      · have : R.ready known y.1 = true := by unfold Rows.ready; rw [h7]; rfl
        rw [this] at hr; cases hr
theorem len_sub : ∀ {a l : List Nat}, a.Nodup → (∀ x ∈ a, x ∈ l) → a.length ≤ l.length
  | [], l, _, _ => Nat.zero_le _
  | x :: a, l, hn, h => by
    rw [List.nodup_cons] at hn
    have hx := h x List.mem_cons_self
    have := len_sub (a := a) (l := l.erase x) hn.2 fun y hy => (List.mem_erase_of_ne fun e => hn.1 (by rw [← e]; exact hy)).mpr (h y (List.mem_cons_of_mem _ hy))
    rw [List.length_erase_of_mem hx] at this
    have := List.length_pos_of_mem hx
    simp only [List.length_cons]; omega
theorem len_le_of_rows {q : Q} (hn : (q.map (·.1)).Nodup) {l : List Nat} (h : ∀ x ∈ q, x.1 ∈ l) : q.length ≤ l.length := by
  have : (q.map (·.1)) ⊆ l := fun y hy => by
    obtain ⟨x, hx, rfl⟩ := List.mem_map.mp hy
    exact h x hx
  have := len_sub hn this
  rwa [List.length_map] at this
theorem lev_end (O : R.Ok) : ∀ {q known : Q}, Lev R 7 q known → (R.trc 1 q known).isSome = true
  | [], _, _ => rfl
  | x :: q, known, L => by
    rcases L.q x List.mem_cons_self with h | h
    · omega
    · omega
theorem lev_len {k : Nat} {q known : Q} (L : Lev R k q known) {l : List Nat} (hl : ∀ r, k ≤ r → r ≤ 6 → r ∈ l) (h7 : k = 2 → 7 ∈ l) : q.length ≤ l.length :=
  len_le_of_rows L.ok.nd fun x hx => (L.q x hx).elim (fun h => hl _ h.1 h.2) fun h => h.2 ▸ h7 h.1
theorem trc_ends (O : R.Ok) {q : Q} (L : Lev R 2 q []) : (R.trc 18 q []).isSome = true := by
  have h6 : ∀ {q known}, Lev R 6 q known → (R.trc 2 q known).isSome = true := fun {q known} L => by
    have := lev_next O L (by decide) (by decide) fun _ _ => lev_end O
    have hl := lev_len L (l := [6]) (fun r a b => by simp; omega) (fun h => by omega)
    exact trc_le (by simp only [List.length_cons, List.length_nil] at hl; omega) this
  have h5 : ∀ {q known}, Lev R 5 q known → (R.trc 4 q known).isSome = true := fun {q known} L => by
    have := lev_next O L (by decide) (by decide) fun _ _ => h6
    have hl := lev_len L (l := [5, 6]) (fun r a b => by simp; omega) (fun h => by omega)
    exact trc_le (by simp only [List.length_cons, List.length_nil] at hl; omega) this
  have h4 : ∀ {q known}, Lev R 4 q known → (R.trc 7 q known).isSome = true := fun {q known} L => by
    have := lev_next O L (by decide) (by decide) fun _ _ => h5
    have hl := lev_len L (l := [4, 5, 6]) (fun r a b => by simp; omega) (fun h => by omega)
    exact trc_le (by simp only [List.length_cons, List.length_nil] at hl; omega) this
  have h3 : ∀ {q known}, Lev R 3 q known → (R.trc 11 q known).isSome = true := fun {q known} L => by
    have := lev_next O L (by decide) (by decide) fun _ _ => h4
    have hl := lev_len L (l := [3, 4, 5, 6]) (fun r a b => by simp; omega) (fun h => by omega)
    exact trc_le (by simp only [List.length_cons, List.length_nil] at hl; omega) this
  have := lev_next O L (by decide) (by decide) fun _ _ => h3
  have hl := lev_len L (l := [2, 3, 4, 5, 6, 7]) (fun r a b => by simp; omega) (fun h => by simp)
  exact trc_le (by simp only [List.length_cons, List.length_nil] at hl; omega) this
theorem trc_known (O : R.Ok) : ∀ (n : Nat) {q known : Q}, QOk q known → ∀ {log kf}, R.trc n q known = some (log, kf) → QOk [] kf
  | 0, _, _, _, _, _, h => by cases h
  | n + 1, [], known, K, _, _, h => by cases h; exact K
  | n + 1, x :: q, known, K, _, _, h => by
    obtain ⟨⟨l1, k1⟩, h1, h2⟩ := Option.map_eq_some_iff.mp h
    cases h2
    exact trc_known O n (step_ok O K) h1
end
end
section
open PySem
set_option autoImplicit false
set_option linter.unusedSimpArgs false
set_option linter.unusedVariables false
set_option maxHeartbeats 1000000
set_option maxRecDepth 100000
-- E22
noncomputable def tF : List Nat := [70, 76, 65, 71, 83, 32, 40]
noncomputable def tPre : List Nat := [80, 69, 82, 77, 65, 78, 69, 78, 84, 70, 76, 65, 71, 83, 32, 40, 97, 110, 100, 32, 80, 41, 32]
noncomputable def tPost : List Nat := [32, 102, 108, 97, 103, 115, 32, 40, 111, 114, 32, 113, 32, 113, 41, 32, 70, 76, 65, 71, 83, 32, 32, 40, 111, 114, 32, 113, 32, 113, 41]
noncomputable def t70 : List Nat := [102, 108, 97, 103, 115, 32, 40, 97, 110, 100, 32, 112, 32, 113, 41]
noncomputable def t71 : List Nat := [80, 69, 82, 77, 65, 78, 69, 78, 84, 70, 76, 65, 71, 83, 32, 40, 97, 110, 100, 32, 80, 41, 32, 70, 76, 65, 71, 83, 32, 40, 41]
noncomputable def t72 : List Nat := [70, 76, 65, 71, 83, 32, 32, 40, 97, 110, 100, 32, 112, 32, 113, 41]
noncomputable def sepS (g : Nat) : List Nat := [[32], [9], [32, 32]].getD g []
noncomputable def coreS (g : Nat) (ws : List (List Nat)) : List Nat := tF ++ joinL (sepS g) ([[]] ++ ws ++ [[]]) ++ [41]
noncomputable def textS (w g : Nat) (ws : List (List Nat)) : List Nat := [coreS g ws, tPre ++ coreS g ws, coreS g ws ++ tPost].getD w []
noncomputable def text7 (w : Nat) : List Nat := [t70, t71, t72].getD w []
section
variable {C : Ctx} {σ : Sto} {a b c : List Nat} {x y : List D}
theorem sub3 (C : Ctx) (σ : Sto) (a b c : List Nat) {w : Nat} (h : w < 3) : subV C σ (.p (.list [.str a, .str b, .str c])) (.p (nD w)) = some (.p (.str ([a, b, c].getD w []))) := by
  have : w = 0 ∨ w = 1 ∨ w = 2 := by omega
  rcases this with rfl | rfl | rfl <;> rfl
theorem add_list (h : x.length + y.length ≤ lim) : binop σ .Add (.p (.list x)) (.p (.list y)) = some (.p (.list (x ++ y))) := by
  show (if decide (x.length + y.length ≤ lim) = true then _ else _) = _
  rw [if_pos (decide_eq_true h)]
theorem add_str (h : a.length + b.length ≤ lim) : binop σ .Add (.p (.str a)) (.p (.str b)) = some (.p (.str (a ++ b))) := by
  exact or_l (gd (decide_eq_true h) rfl)
end
theorem joinL_len (sep : List Nat) : ∀ ws : List (List Nat), (joinL sep ws).length ≤ (ws.map List.length).sum + ws.length * sep.length
  | [] => by simp [joinL]
  | [w] => by simp [joinL]
  | w :: v :: ws => by
    have := joinL_len sep (v :: ws)
    simp only [joinL, List.length_append, List.map_cons, List.sum_cons, List.length_cons, Nat.succ_mul] at this ⊢
    omega
theorem sepS_len : ∀ g, (sepS g).length ≤ 2
  | 0 => by decide
  | 1 => by decide
  | 2 => by decide
  | n + 3 => by simp [sepS]
section
variable {R : Rows} {Z : Dress} {σ : Sto}
structure Dress.Ok (Z : Dress) : Prop where
  way : ∀ r, Z.way r < 3
  gap : ∀ r, Z.gap r < 3
  gr : ∀ r, Z.gr r < 2
theorem tl_len (O : R.Ok) {r : Nat} (h2 : 2 ≤ r) (h6 : r ≤ 6) : (R.tl r).length ≤ 3 ∧ ((R.tl r).map List.length).sum ≤ 6 := by
  have h7 : (r == 7) = false := beq_eq_false_iff_ne.mpr (by omega)
  unfold Rows.tl
  rw [h7, if_neg (by decide)]
  rcases O.kind r h2 h6 with h | h | h | h <;> rw [h] <;> (first | rw [if_neg (by decide)] | rw [if_pos (by decide)]) <;> simp [bT, bA, bO, bN]
theorem core_len (O : R.Ok) {r : Nat} (h2 : 2 ≤ r) (h6 : r ≤ 6) (g : Nat) : (coreS g (R.tl r)).length ≤ 100 := by
  obtain ⟨a, b⟩ := tl_len O h2 h6
  have h1 := joinL_len (sepS g) ([[]] ++ R.tl r ++ [[]])
  have h2 := sepS_len g
  have h3 : ([[]] ++ R.tl r ++ [[]] : List (List Nat)).length * (sepS g).length ≤ 5 * 2 := Nat.mul_le_mul (by simp only [List.length_append, List.length_cons, List.length_nil]; omega) h2
  simp only [List.map_append, List.map_cons, List.map_nil, List.sum_append, List.sum_cons, List.sum_nil, List.length_nil] at h1
  unfold coreS
  simp only [List.length_append, tF, List.length_cons, List.length_nil] at h1 h3 ⊢
  omega
theorem dressed_ok (O : R.Ok) (Y : Z.Ok) (σ : Sto) : ∀ r, 2 ≤ r → r ≤ 6 → gDressed σ [.p (nD r), .p (.list (defsD R)), .p (.list (dressD R Z))] = some (.p (prD (nm r (Z.gr r), textS (Z.way r) (Z.gap r) (R.tl r)))) := by
  intro r h2 h6
  have hw := words_ok (Z := Z) O σ r h2 h6
  have hn := f_name σ r (by omega) (Z.gr r) (Y.gr r)
  have hc := core_len O h2 h6 (Z.gap r)
  obtain ⟨hl3, hl6⟩ := tl_len O h2 h6
  have hadd1 : binop σ .Add (.p (.list [.str []])) (.p (.list (wordsD R r))) = some (.p (.list ([.str []] ++ wordsD R r))) := add_list (pos_lim' (by simp only [wordsD, List.length_map, List.length_cons, List.length_nil]; omega))
  have hadd2 : binop σ .Add (.p (.list ([.str []] ++ wordsD R r))) (.p (.list [.str []])) = some (.p (.list ([.str []] ++ wordsD R r ++ [.str []]))) := add_list (pos_lim' (by simp only [wordsD, List.length_map, List.length_append, List.length_cons, List.length_nil]; omega))
  have hstrs : strs? ([.str []] ++ wordsD R r ++ [.str []]) = some ([[]] ++ R.tl r ++ [[]]) := by
    have hm : strs? (wordsD R r) = some (R.tl r) := by
      have := strs_map (fun s : List Nat => s) (R.tl r)
      rwa [List.map_id'] at this
    exact strs_app (strs_app rfl hm) rfl
  have hjl : (([[]] ++ R.tl r ++ [[]] : List (List Nat)).map List.length).sum + ([[]] ++ R.tl r ++ [[]] : List (List Nat)).length * (sepS (Z.gap r)).length ≤ 100 := by
    have h2 := sepS_len (Z.gap r)
    have h3 : ([[]] ++ R.tl r ++ [[]] : List (List Nat)).length * (sepS (Z.gap r)).length ≤ 5 * 2 := Nat.mul_le_mul (by simp only [List.length_append, List.length_cons, List.length_nil]; omega) h2
    simp only [List.map_append, List.map_cons, List.map_nil, List.sum_append, List.sum_cons, List.sum_nil, List.length_nil]
    omega
  have hjoin := join_meth (cA fn3) σ hstrs (pos_lim' hjl)
  have hc1 : binop σ .Add (.p (.str tF)) (.p (.str (joinL (sepS (Z.gap r)) ([[]] ++ R.tl r ++ [[]])))) = some (.p (.str (tF ++ joinL (sepS (Z.gap r)) ([[]] ++ R.tl r ++ [[]])))) := add_str (pos_lim' (by unfold coreS at hc; simp only [List.length_append] at hc ⊢; omega))
  have hc2 : binop σ .Add (.p (.str (tF ++ joinL (sepS (Z.gap r)) ([[]] ++ R.tl r ++ [[]])))) (.p (.str [41])) = some (.p (.str (coreS (Z.gap r) (R.tl r)))) := add_str (pos_lim' (by unfold coreS at hc; simp only [List.length_append] at hc ⊢; omega))
  have hc3 : binop σ .Add (.p (.str tPre)) (.p (.str (coreS (Z.gap r) (R.tl r)))) = some (.p (.str (tPre ++ coreS (Z.gap r) (R.tl r)))) := by
    refine add_str ?_
    have : tPre.length = 23 := by decide
    simp only [lim]; omega
  have hc4 : binop σ .Add (.p (.str (coreS (Z.gap r) (R.tl r)))) (.p (.str tPost)) = some (.p (.str (coreS (Z.gap r) (R.tl r) ++ tPost))) := by
    refine add_str ?_
    have : tPost.length = 31 := by decide
    simp only [lim]; omega
  clear hc hl3 hl6 hjl hstrs
  have hr := (by decide +kernel : ∀ r < 7, 2 ≤ r → r = 2 ∨ r = 3 ∨ r = 4 ∨ r = 5 ∨ r = 6) r (Nat.lt_succ_of_le h6) h2
  have h7 := ne7 h6
  clear h2 h6
  refine run_PE (σ' := σ) rfl ?_
  exact b_consX (ρ' := [("row", .p (nD r)), ("defs", .p (.list (defsD R))), ("dress", .p (.list (dressD R Z))), ("way", .p (nD (Z.way r))), ("gap", .p (nD (Z.gap r))), ("great", .p (nD (Z.gr r)))]) (s_tgt (v := .p (.list [nD (Z.way r), nD (Z.gap r), nD (Z.gr r)])) rfl rfl rfl (by
    clear hadd1 hadd2 hjoin hc1 hc2 hc3 hc4 hn hw O Y
    rcases hr with rfl | rfl | rfl | rfl | rfl <;> exact e_slice (u := .p (.list (dressD R Z))) rfl rfl rfl rfl rfl rfl rfl rfl) rfl) (b_consX (s_if_f (t_cmp rfl rfl (eq7_ok _ h7)) (b_cons (s_name rfl rfl rfl (e_bin (e_bin (u := .p (.str tF)) rfl (e_meth (u := .p (.str (sepS (Z.gap _)))) (vs := [.p (.list ([.str []] ++ wordsD R _ ++ [.str []]))]) rfl (e_sub (fun _ _ _ _ h => nomatch h) rfl rfl (sub3 _ _ _ _ _ (Y.gap _))) (evs_c (fun _ _ h => nomatch h) (e_bin (e_bin rfl (e_call rfl rfl rfl (evs_c (fun _ _ h => nomatch h) rfl (evs_c (fun _ _ h => nomatch h) rfl (evs_c (fun _ _ h => nomatch h) rfl rfl))) hw) hadd1) rfl hadd2) rfl) rfl hjoin) hc1) rfl hc2)) (b_cons (s_name rfl rfl rfl (e_sub (fun _ _ _ _ h => nomatch h) (e_list rfl (evs_c (fun _ _ h => nomatch h) rfl (evs_c (fun _ _ h => nomatch h) (e_bin (u := .p (.str tPre)) rfl rfl hc3) (evs_c (fun _ _ h => nomatch h) (e_bin (w := .p (.str tPost)) rfl rfl hc4) rfl))) rfl) rfl (sub3 _ _ _ _ _ (Y.way _)))) b_nil))) ⟨_, b_ret (s_retP rfl (e_tuple rfl (evs_c (fun _ _ h => nomatch h) (e_call rfl rfl rfl (evs_c (fun _ _ h => nomatch h) rfl (evs_c (fun _ _ h => nomatch h) rfl rfl)) hn) (evs_c (fun _ _ h => nomatch h) rfl rfl)) rfl))⟩)
theorem dressed7 (Y : Z.Ok) (σ : Sto) : gDressed σ [.p (nD 7), .p (.list (defsD R)), .p (.list (dressD R Z))] = some (.p (prD (nm 7 (Z.gr 7), text7 (Z.way 7)))) := by
  have hn := f_name σ 7 (by omega) (Z.gr 7) (Y.gr 7)
  refine run_PE (σ' := σ) rfl ?_
  exact b_consX (ρ' := [("row", .p (nD 7)), ("defs", .p (.list (defsD R))), ("dress", .p (.list (dressD R Z))), ("way", .p (nD (Z.way 7))), ("gap", .p (nD (Z.gap 7))), ("great", .p (nD (Z.gr 7)))]) (s_tgt (v := .p (.list [nD (Z.way 7), nD (Z.gap 7), nD (Z.gr 7)])) rfl rfl rfl (e_slice (u := .p (.list (dressD R Z))) rfl rfl rfl rfl rfl rfl rfl rfl) rfl) (b_consX (s_if_t (t_cmp rfl rfl rfl) (b_cons (s_name rfl rfl rfl (e_sub (fun _ _ _ _ h => nomatch h) rfl rfl (sub3 _ _ t70 t71 t72 (Y.way 7)))) b_nil)) ⟨_, b_ret (s_retP rfl (e_tuple rfl (evs_c (fun _ _ h => nomatch h) (e_call rfl rfl rfl (evs_c (fun _ _ h => nomatch h) rfl (evs_c (fun _ _ h => nomatch h) rfl rfl)) hn) (evs_c (fun _ _ h => nomatch h) rfl rfl)) rfl))⟩)
end
-- E23
theorem flagsAt_ne {c : Nat} {r : List Nat} (h : c ≠ 70) : flagsAt (c :: r) = none := by
  refine if_neg fun e => h ?_
  have e1 : (70 == c && _) = true := (an e).1
  exact (eq_of_beq (an e1).1).symm
theorem fi_skip {c : Nat} {r : List Nat} (h : c ≠ 70) (h10 : c ≠ 10) : flagsIn (c :: r) = flagsIn r := by
  rw [flagsIn, flagsAt_ne h, if_neg (by simpa using h10), Option.or_none]
theorem fi_skips {r : List Nat} : ∀ {p : List Nat}, (∀ c ∈ p, c ≠ 70 ∧ c ≠ 10) → flagsIn (p ++ r) = flagsIn r
  | [], _ => rfl
  | c :: p, h => by
    rw [List.cons_append, fi_skip (h c List.mem_cons_self).1 (h c List.mem_cons_self).2]
    exact fi_skips fun d hd => h d (List.mem_cons_of_mem _ hd)
theorem fi_pre {r g : List Nat} (e : flagsIn r = some g) : ∀ {p : List Nat}, (∀ c ∈ p, c ≠ 10) → flagsIn (p ++ r) = some g
  | [], _ => e
  | c :: p, h => by
    have ih := fi_pre e fun d hd => h d (List.mem_cons_of_mem _ hd)
    rw [List.cons_append, flagsIn, if_neg (by simpa using h c List.mem_cons_self), ih]; rfl
theorem takeWhile_41 : ∀ {J : List Nat} (t : List Nat), (∀ c ∈ J, c ≠ 41) → (J ++ 41 :: t).takeWhile (· != 41) = J
  | [], _, _ => rfl
  | c :: J, t, h => by
    have := h c List.mem_cons_self
    rw [List.cons_append, List.takeWhile_cons, if_pos (by simpa using this), takeWhile_41 t fun d hd => h d (List.mem_cons_of_mem _ hd)]
theorem fi_core {J t : List Nat} (hJ : ∀ c ∈ J, c ≠ 70 ∧ c ≠ 10 ∧ c ≠ 41) (ht : flagsIn t = none) : flagsIn (tF ++ J ++ [41] ++ t) = some J := by
  have h1 : flagsIn ([76, 65, 71, 83, 32, 40] ++ J ++ [41] ++ t) = none := by
    rw [List.append_assoc, List.append_assoc, fi_skips (by decide), fi_skips fun c hc => ⟨(hJ c hc).1, (hJ c hc).2.1⟩, fi_skips (by decide), ht]
  have e : tF ++ J ++ [41] ++ t = 70 :: ([76, 65, 71, 83, 32, 40] ++ J ++ [41] ++ t) := rfl
  rw [e, flagsIn, h1, if_neg (by decide), Option.none_or]
  have e2 : ([76, 65, 71, 83, 32, 40] ++ J ++ [41] ++ t : List Nat) = 76 :: 65 :: 71 :: 83 :: 32 :: 40 :: (J ++ 41 :: t) := by simp
  rw [e2]
  have h41 : (J ++ 41 :: t).contains 41 = true := by simp
  exact gd (and_mk rfl h41) (congrArg some (takeWhile_41 t fun c hc => (hJ c hc).2.2))
theorem fi_line (rest : List Nat) : flagsIn (13 :: 10 :: rest) = none := by
  rw [fi_skip (by decide) (by decide), flagsIn, flagsAt_ne (by decide)]; rfl
theorem fi_post (rest : List Nat) : flagsIn (tPost ++ 13 :: 10 :: rest) = none := by kernel_rfl
noncomputable def wsK (sep : List Nat) : List (List Nat) → List Nat
  | [] => []
  | w :: ws => w ++ sep ++ wsK sep ws
theorem joinL_K (sep : List Nat) : ∀ ws : List (List Nat), joinL sep (ws ++ [[]]) = wsK sep ws
  | [] => rfl
  | [w] => by simp [joinL, wsK]
  | w :: v :: ws => by
    have ih := joinL_K sep (v :: ws)
    show w ++ sep ++ joinL sep ((v :: ws) ++ [[]]) = _
    rw [ih]; rfl
theorem joinL_J (sep : List Nat) (ws : List (List Nat)) : joinL sep ([[]] ++ ws ++ [[]]) = sep ++ wsK sep ws := by
  rw [List.append_assoc]
  have : ∃ a b, ws ++ [[]] = a :: b := by cases ws <;> exact ⟨_, _, rfl⟩
  obtain ⟨a, b, e⟩ := this
  rw [show ([[]] ++ (ws ++ [[]]) : List (List Nat)) = [] :: (ws ++ [[]]) from rfl, e]
  show [] ++ sep ++ joinL sep (a :: b) = _
  rw [← e, joinL_K]; rfl
theorem dropWs {w t : List Nat} : ∀ {s : List Nat}, (∀ c ∈ s, isWs c = true) → (∀ c ∈ w.head?, isWs c = false) → w ≠ [] → (s ++ (w ++ t)).dropWhile isWs = w ++ t
  | [], _, hw, hn => by
    cases w with
    | nil => exact absurd rfl hn
    | cons c w =>
      have := hw c rfl
      rw [List.nil_append, List.cons_append, List.dropWhile_cons, if_neg (by simp [this])]
  | c :: s, h, hw, hn => by
    rw [List.cons_append, List.dropWhile_cons, if_pos (h c List.mem_cons_self)]
    exact dropWs (fun d hd => h d (List.mem_cons_of_mem _ hd)) hw hn
theorem takeNws {t : List Nat} : ∀ {w : List Nat}, (∀ c ∈ w, isWs c = false) → (∀ c ∈ t.head?, isWs c = true) → (w ++ t).takeWhile (!isWs ·) = w ∧ (w ++ t).dropWhile (!isWs ·) = t
  | [], _, ht => by
    cases t with
    | nil => exact ⟨rfl, rfl⟩
    | cons c t =>
      have := ht c rfl
      rw [List.nil_append, List.takeWhile_cons, List.dropWhile_cons, if_neg (by simp [this]), if_neg (by simp [this])]
      exact ⟨rfl, rfl⟩
  | c :: w, h, ht => by
    have hc := h c List.mem_cons_self
    obtain ⟨a, b⟩ := takeNws (t := t) (fun d hd => h d (List.mem_cons_of_mem _ hd)) ht
    rw [List.cons_append, List.takeWhile_cons, List.dropWhile_cons, if_pos (by simp [hc]), if_pos (by simp [hc]), a, b]
    exact ⟨rfl, rfl⟩
theorem dropAll : ∀ {s : List Nat}, (∀ c ∈ s, isWs c = true) → s.dropWhile isWs = []
  | [], _ => rfl
  | c :: s, h => by rw [List.dropWhile_cons, if_pos (h c List.mem_cons_self)]; exact dropAll fun d hd => h d (List.mem_cons_of_mem _ hd)
theorem split_K {sep : List Nat} (hs : ∀ c ∈ sep, isWs c = true) (hne : sep ≠ []) : ∀ {n : Nat} {ws : List (List Nat)}, ws.length < n → (∀ w ∈ ws, w ≠ [] ∧ ∀ c ∈ w, isWs c = false) → splitWs n (sep ++ wsK sep ws) = ws
  | 0, _, h, _ => absurd h (by omega)
  | n + 1, [], _, _ => by
    unfold splitWs
    rw [show wsK sep [] = [] from rfl, List.append_nil, dropAll hs]
  | n + 1, w :: ws, h, hw => by
    obtain ⟨hwn, hwc⟩ := hw w List.mem_cons_self
    have ih := split_K hs hne (n := n) (ws := ws) (by simp only [List.length_cons] at h; omega) fun v hv => hw v (List.mem_cons_of_mem _ hv)
    have hd : (sep ++ wsK sep (w :: ws)).dropWhile isWs = w ++ (sep ++ wsK sep ws) := by
      rw [show wsK sep (w :: ws) = w ++ (sep ++ wsK sep ws) from by simp [wsK]]
      refine dropWs hs (fun c hc => hwc c ?_) hwn
      cases w with
      | nil => cases hc
      | cons a w => cases hc; exact List.mem_cons_self
    have ht : ∀ c ∈ (sep ++ wsK sep ws).head?, isWs c = true := fun c hc => by
      cases sep with
      | nil => exact absurd rfl hne
      | cons a sep => cases hc; exact hs _ List.mem_cons_self
    obtain ⟨t1, t2⟩ := takeNws hwc ht
    unfold splitWs
    rw [hd]
    cases w with
    | nil => exact absurd rfl hwn
    | cons a w =>
      rw [List.cons_append] at t1 t2 ⊢
      dsimp only
      rw [t1, t2, ih]
theorem K_len {sep : List Nat} : ∀ {ws : List (List Nat)}, (∀ w ∈ ws, w ≠ []) → ws.length ≤ (wsK sep ws).length
  | [], _ => Nat.zero_le _
  | w :: ws, h => by
    have ih := K_len (sep := sep) fun v hv => h v (List.mem_cons_of_mem _ hv)
    have : w.length ≠ 0 := fun e => h w List.mem_cons_self (List.length_eq_zero_iff.mp e)
    simp only [wsK, List.length_cons, List.length_append]
    omega
theorem K_mem {sep : List Nat} {c : Nat} : ∀ {ws : List (List Nat)}, c ∈ wsK sep ws → c ∈ sep ∨ ∃ w ∈ ws, c ∈ w
  | [], h => by cases h
  | w :: ws, h => by
    simp only [wsK, List.mem_append] at h
    rcases h with (h | h) | h
    · exact .inr ⟨w, List.mem_cons_self, h⟩
    · exact .inl h
    · exact (K_mem h).imp id fun ⟨v, hv, q⟩ => ⟨v, List.mem_cons_of_mem _ hv, q⟩
noncomputable def wOk (w : List Nat) : Bool := !w.isEmpty && w.all fun c => !isWs c && c != 70 && c != 10 && c != 41 && !bad 2 c && decide (c < 256)
theorem sep_ok : ∀ g < 3, sepS g ≠ [] ∧ ((sepS g).all fun c => isWs c && c != 70 && c != 10 && c != 41 && !bad 2 c && decide (c < 256)) = true := by decide
theorem parse_text {w g c : Nat} (hw : w < 3) (hg : g < 3) (hc : c ≠ 10) {ws : List (List Nat)} (h : ∀ v ∈ ws, wOk v = true) (l : List Pr1) : parseS (sendS ((c, textS w g ws) :: l)) = ws.map .bytes := by
  obtain ⟨s1, s2⟩ := sep_ok g hg
  have hsep : ∀ c ∈ sepS g, isWs c = true ∧ c ≠ 70 ∧ c ≠ 10 ∧ c ≠ 41 := fun c hc => by
    have := List.all_eq_true.mp s2 c hc
    simp only [Bool.and_eq_true, bne_iff_ne] at this
    exact ⟨this.1.1.1.1.1, this.1.1.1.1.2, this.1.1.1.2, this.1.1.2⟩
  have hws : ∀ v ∈ ws, v ≠ [] ∧ ∀ c ∈ v, isWs c = false ∧ c ≠ 70 ∧ c ≠ 10 ∧ c ≠ 41 := fun v hv => by
    have := h v hv
    unfold wOk at this
    simp only [Bool.and_eq_true, List.all_eq_true, bne_iff_ne, Bool.not_eq_true'] at this
    exact ⟨fun e => (by have h1 := this.1; simp [e] at h1), fun c hc => ⟨(this.2 c hc).1.1.1.1.1, (this.2 c hc).1.1.1.1.2, (this.2 c hc).1.1.1.2, (this.2 c hc).1.1.2⟩⟩
  have hJ : ∀ c ∈ joinL (sepS g) ([[]] ++ ws ++ [[]]), c ≠ 70 ∧ c ≠ 10 ∧ c ≠ 41 := fun c hc => by
    rw [joinL_J] at hc
    rcases List.mem_append.mp hc with hc | hc
    · exact (hsep c hc).2
    · rcases K_mem hc with hc | ⟨v, hv, hc⟩
      · exact (hsep c hc).2
      · exact ((hws v hv).2 c hc).2
  have hin : flagsIn (sendS ((c, textS w g ws) :: l)) = some (joinL (sepS g) ([[]] ++ ws ++ [[]])) := by
    have e : sendS ((c, textS w g ws) :: l) = [c, 58, 32] ++ (textS w g ws ++ (13 :: 10 :: ((l.map fun x => lineS x ++ [13, 10]).flatten ++ [13, 10]))) := by
      simp [sendS, lineS, List.append_assoc]
    rw [e]
    refine fi_pre ?_ fun d hd => ?_
    · have : w = 0 ∨ w = 1 ∨ w = 2 := by omega
      rcases this with rfl | rfl | rfl
      · exact fi_core hJ (fi_line _)
      · show flagsIn (tPre ++ coreS g ws ++ _) = _
        rw [List.append_assoc]
        exact fi_pre (fi_core hJ (fi_line _)) (by decide)
      · show flagsIn (coreS g ws ++ tPost ++ _) = _
        rw [List.append_assoc]
        exact fi_core hJ (fi_post _)
    · simp only [List.mem_cons, List.not_mem_nil, or_false] at hd
      rcases hd with rfl | rfl | rfl
      · exact hc
      · decide
      · decide
  unfold parseS
  rw [hin]
  dsimp only
  rw [joinL_J]
  congr 1
  refine split_K (fun c hc => (hsep c hc).1) s1 ?_ fun v hv => ⟨(hws v hv).1, fun c hc => ((hws v hv).2 c hc).1⟩
  have := K_len (sep := sepS g) fun v hv => (hws v hv).1
  rw [List.length_append]; omega
theorem parse_text7 {w g : Nat} (hw : w < 3) (hg : g < 2) (l : List Pr1) : parseS (sendS ((nm 7 g, text7 w) :: l)) = [] := by
  have h1 : w = 0 ∨ w = 1 ∨ w = 2 := by omega
  have h2 : g = 0 ∨ g = 1 := by omega
  have e : ∀ c t, sendS ((c, t) :: l) = [c, 58, 32] ++ t ++ (13 :: 10 :: ((l.map fun x => lineS x ++ [13, 10]).flatten ++ [13, 10])) := fun c t => by
    simp [sendS, lineS, List.append_assoc]
  rw [e]
  generalize ((l.map fun x => lineS x ++ [13, 10]).flatten ++ [13, 10]) = rest
  rcases h1 with rfl | rfl | rfl <;> rcases h2 with rfl | rfl <;> kernel_rfl
-- E24
noncomputable def cl (c : Nat) : Bool := !bad 2 c && decide (c < 256)
theorem cl_all {l : List Nat} (h : l.all cl = true) : l.any (bad 2) = false ∧ l.all (· < 256) = true := by
  rw [List.all_eq_true] at h
  refine ⟨?_, List.all_eq_true.mpr fun c hc => ?_⟩
  · rw [List.any_eq_false]
    intro c hc
    have := h c hc
    unfold cl at this
    simp only [Bool.and_eq_true, Bool.not_eq_true'] at this
    simp [this.1]
  · have := h c hc
    unfold cl at this
    simp only [Bool.and_eq_true] at this
    exact this.2
theorem consts_cl : tF.all cl = true ∧ tPre.all cl = true ∧ tPost.all cl = true ∧ t70.all cl = true ∧ t71.all cl = true ∧ t72.all cl = true ∧ ([41] : List Nat).all cl = true := by decide +kernel
theorem word_cl {v : List Nat} (h : wOk v = true) : v.all cl = true := by
  unfold wOk at h
  simp only [Bool.and_eq_true, List.all_eq_true] at h
  rw [List.all_eq_true]
  intro c hc
  have := h.2 c hc
  unfold cl
  rw [Bool.and_eq_true]
  exact ⟨this.1.2, this.2⟩
theorem sep_cl {g : Nat} (hg : g < 3) : (sepS g).all cl = true := by
  have := (sep_ok g hg).2
  rw [List.all_eq_true] at this ⊢
  intro c hc
  have := this c hc
  simp only [Bool.and_eq_true] at this
  unfold cl
  rw [Bool.and_eq_true]
  exact ⟨this.1.2, this.2⟩
theorem core_cl {g : Nat} (hg : g < 3) {ws : List (List Nat)} (h : ∀ v ∈ ws, wOk v = true) : (coreS g ws).all cl = true := by
  unfold coreS
  obtain ⟨c1, c2, c3, c4, c5, c6, c7⟩ := consts_cl
  rw [List.all_append, List.all_append, c1, c7, Bool.and_true, Bool.true_and, joinL_J, List.all_append, sep_cl hg, Bool.true_and, List.all_eq_true]
  intro c hc
  rcases K_mem hc with hc | ⟨v, hv, hc⟩
  · exact List.all_eq_true.mp (sep_cl hg) c hc
  · exact List.all_eq_true.mp (word_cl (h v hv)) c hc
theorem text_cl {w g : Nat} (hw : w < 3) (hg : g < 3) {ws : List (List Nat)} (h : ∀ v ∈ ws, wOk v = true) : (textS w g ws).all cl = true := by
  obtain ⟨c1, c2, c3, c4, c5, c6, c7⟩ := consts_cl
  have hc := core_cl hg h
  have : w = 0 ∨ w = 1 ∨ w = 2 := by omega
  rcases this with rfl | rfl | rfl
  · exact hc
  · show (tPre ++ coreS g ws).all cl = true
    rw [List.all_append, c2, hc]; rfl
  · show (coreS g ws ++ tPost).all cl = true
    rw [List.all_append, c3, hc]; rfl
theorem text_len {w g : Nat} (hw : w < 3) {ws : List (List Nat)} (h : (coreS g ws).length ≤ 100) : (textS w g ws).length ≤ 1000 := by
  have : w = 0 ∨ w = 1 ∨ w = 2 := by omega
  have h1 : tPre.length = 23 := by decide
  have h2 : tPost.length = 31 := by decide
  rcases this with rfl | rfl | rfl
  · show (coreS g ws).length ≤ 1000; omega
  · show (tPre ++ coreS g ws).length ≤ 1000; rw [List.length_append]; omega
  · show (coreS g ws ++ tPost).length ≤ 1000; rw [List.length_append]; omega
theorem nm_wOk : ∀ p < 6, ∀ g < 2, wOk [nm p g] = true := by decide +kernel
structure Rows.Ok0 (R : Rows) : Prop where
  kind : ∀ r, 2 ≤ r → r ≤ 6 → R.kind r = bT ∨ R.kind r = bA ∨ R.kind r = bO ∨ R.kind r = bN
  fst : ∀ r, 2 ≤ r → r ≤ 6 → R.fst r < r
  lst : ∀ r, 2 ≤ r → r ≤ 6 → R.lst r < r
  not : ∀ r, 2 ≤ r → r ≤ 6 → R.kind r = bN → R.lst r = R.fst r
  g1 : ∀ r, R.g1 r < 2
  g2 : ∀ r, R.g2 r < 2
  M : ∀ r, r ≤ 6 → R.M r < 16
  ms : R.ms < 16
  c0 : R.c0 < 16
  c1 : R.c1 < 16
  c2 : R.c2 < 16
  c3 : R.c3 < 16
  deed : ∀ r, 2 ≤ r → r ≤ 6 → R.M r = R.deed r
section
variable {R : Rows} {Z : Dress}
theorem tl_wOk (O : R.Ok0) {r : Nat} (h2 : 2 ≤ r) (h6 : r ≤ 6) : ∀ v ∈ R.tl r, wOk v = true := by
  have h7 : (r == 7) = false := beq_eq_false_iff_ne.mpr (by omega)
  have o1 := nm_wOk (R.fst r) (by have := O.fst r h2 h6; omega) (R.g1 r) (O.g1 _)
  have o2 := nm_wOk (R.lst r) (by have := O.lst r h2 h6; omega) (R.g2 r) (O.g2 _)
  have hk : wOk (R.kind r) = true := by rcases O.kind r h2 h6 with h | h | h | h <;> rw [h] <;> decide
  intro v hv
  unfold Rows.tl at hv
  rw [h7, if_neg (by decide)] at hv
  split at hv
  · simp only [List.mem_cons, List.not_mem_nil, or_false] at hv
    rcases hv with rfl | rfl
    · decide
    · exact o1
  · simp only [List.mem_cons, List.not_mem_nil, or_false] at hv
    rcases hv with rfl | rfl | rfl
    · exact hk
    · exact o1
    · exact o2
theorem tl_len0 (O : R.Ok0) {r : Nat} (h2 : 2 ≤ r) (h6 : r ≤ 6) : (R.tl r).length ≤ 3 ∧ ((R.tl r).map List.length).sum ≤ 6 := by
  have h7 : (r == 7) = false := beq_eq_false_iff_ne.mpr (by omega)
  unfold Rows.tl
  rw [h7, if_neg (by decide)]
  rcases O.kind r h2 h6 with h | h | h | h <;> rw [h] <;> (first | rw [if_neg (by decide)] | rw [if_pos (by decide)]) <;> simp [bT, bA, bO, bN]
theorem core_len0 (O : R.Ok0) {r : Nat} (h2 : 2 ≤ r) (h6 : r ≤ 6) (g : Nat) : (coreS g (R.tl r)).length ≤ 100 := by
  obtain ⟨a, b⟩ := tl_len0 O h2 h6
  have h1 := joinL_len (sepS g) ([[]] ++ R.tl r ++ [[]])
  have h2 := sepS_len g
  have h3 : ([[]] ++ R.tl r ++ [[]] : List (List Nat)).length * (sepS g).length ≤ 5 * 2 := Nat.mul_le_mul (by simp only [List.length_append, List.length_cons, List.length_nil]; omega) h2
  simp only [List.map_append, List.map_cons, List.map_nil, List.sum_append, List.sum_cons, List.sum_nil, List.length_nil] at h1
  unfold coreS
  simp only [List.length_append, tF, List.length_cons, List.length_nil] at h1 h3 ⊢
  omega
theorem Rows.Ok0.ok (O : R.Ok0) (Y : Z.Ok) (h6 : ∀ r, 2 ≤ r → r ≤ 6 → R.T r = textS (Z.way r) (Z.gap r) (R.tl r)) (h7 : R.T 7 = text7 (Z.way 7)) : R.Ok := by
  obtain ⟨c1, c2, c3, c4, c5, c6, c7⟩ := consts_cl
  refine ⟨O.kind, O.fst, O.lst, O.not, O.g1, O.g2, fun r a b => ?_, fun r a b g hg l => ?_, O.M, O.ms, O.c0, O.c1, O.c2, O.c3, O.deed⟩
  · by_cases h : r ≤ 6
    · rw [h6 r a h]
      obtain ⟨x, y⟩ := cl_all (text_cl (Y.way r) (Y.gap r) (tl_wOk O a h))
      exact ⟨x, text_len (Y.way r) (core_len0 O a h _), y⟩
    · have : r = 7 := by omega
      subst this
      rw [h7]
      have hw := Y.way 7
      have : Z.way 7 = 0 ∨ Z.way 7 = 1 ∨ Z.way 7 = 2 := by omega
      rcases this with e | e | e <;> rw [e]
      · exact ⟨(cl_all c4).1, by decide, (cl_all c4).2⟩
      · exact ⟨(cl_all c5).1, by decide, (cl_all c5).2⟩
      · exact ⟨(cl_all c6).1, by decide, (cl_all c6).2⟩
  · by_cases h : r ≤ 6
    · rw [h6 r a h]
      have hn := (nm_ok r (by omega) g hg).1
      exact parse_text (Y.way r) (Y.gap r) (by have := (lw_ok hn).2.2.2.2.2.1; omega) (tl_wOk O a h) l
    · have : r = 7 := by omega
      subst this
      rw [h7, parse_text7 (Y.way 7) hg]; rfl
end
end
section
open PySem
set_option autoImplicit false
set_option linter.unusedSimpArgs false
set_option linter.unusedVariables false
set_option maxHeartbeats 2000000
set_option maxRecDepth 100000
-- E25
noncomputable def figsS : Int → List Int → List Int
  | _, [] => []
  | c, b :: bs => c.fmod b :: figsS (c.fdiv b) bs
noncomputable def Bd : List Nat → List Nat → Prop
  | [], [] => True
  | n :: ns, b :: bs => n < b ∧ Bd ns bs
  | _, _ => False
theorem figs_bd : ∀ (bs : List Nat) (c : Int), (∀ b ∈ bs, 0 < b) → ∃ ns, Bd ns bs ∧ (figsS c (bs.map fun (b : Nat) => (b : Int))) = ns.map fun (n : Nat) => (n : Int)
  | [], _, _ => ⟨[], trivial, rfl⟩
  | b :: bs, c, h => by
    have hb := h b List.mem_cons_self
    obtain ⟨ns, h1, h2⟩ := figs_bd bs (c.fdiv b) fun d hd => h d (List.mem_cons_of_mem _ hd)
    have l1 : 0 ≤ c.fmod (b : Int) := by rw [Int.fmod_eq_emod_of_nonneg c (by omega)]; exact Int.emod_nonneg c (by omega)
    have l2 : c.fmod (b : Int) < b := by rw [Int.fmod_eq_emod_of_nonneg c (by omega)]; exact Int.emod_lt_of_pos c (by omega)
    refine ⟨(c.fmod b).toNat :: ns, ⟨by omega, h1⟩, ?_⟩
    simp only [List.map_cons, figsS, h2]
    congr 1
    omega
noncomputable def bs1 : List Nat := [2, 2, 2, 2, 2, 2, 16, 16, 16]
noncomputable def bs2 : List Nat := [5, 2, 2, 5, 3, 3, 5, 4, 4]
noncomputable def bs3 : List Nat := (List.replicate 6 [3, 3, 2, 2, 2]).flatten
noncomputable def bs4 : List Nat := [6, 5, 4, 3, 2, 1]
theorem fig1 (c : Int) : gFigures [] [.p (.int c), .p (.list (bs1.map nD))] = some (.p (.list ((figsS c (bs1.map fun (b : Nat) => (b : Int))).map .int))) := by kernel_rfl
theorem fig2 (c : Int) : gFigures [] [.p (.int c), .p (.list (bs2.map nD))] = some (.p (.list ((figsS c (bs2.map fun (b : Nat) => (b : Int))).map .int))) := by kernel_rfl
theorem fig3 (c : Int) : gFigures [] [.p (.int c), .p (.list (bs3.map nD))] = some (.p (.list ((figsS c (bs3.map fun (b : Nat) => (b : Int))).map .int))) := by kernel_rfl
theorem fig4 (l : List D) (c : Int) : gFigures [l] [.p (.int c), .p (.list (bs4.map nD))] = some (.p (.list ((figsS c (bs4.map fun (b : Nat) => (b : Int))).map .int))) := by kernel_rfl
theorem nD_map (ns : List Nat) : (ns.map fun (n : Nat) => (n : Int)).map D.int = ns.map nD := by rw [List.map_map]; rfl
-- E26
noncomputable def kindS (w : Nat) : List Nat := [bT, bA, bO, bN, bT].getD w []
theorem kindS_ok : ∀ w < 5, kindS w = bT ∨ kindS w = bA ∨ kindS w = bO ∨ kindS w = bN := by decide
section
variable {C : Ctx} {σ : Sto}
theorem sub5 (C : Ctx) (σ : Sto) {w : Nat} (h : w < 5) : subV C σ (.p (.list [.str bT, .str bA, .str bO, .str bN, .str bT])) (.p (nD w)) = some (.p (.str (kindS w))) := by
  have : w = 0 ∨ w = 1 ∨ w = 2 ∨ w = 3 ∨ w = 4 := by omega
  rcases this with rfl | rfl | rfl | rfl | rfl <;> rfl
theorem eq_not (C : Ctx) (σ : Sto) (k : List Nat) : cmpOp C σ .Eq (.p (.str k)) (.p (.str bN)) = some (k == bN) := by
  show some ((k == bN) != false) = _
  cases h : k == bN <;> simp [h, bne]
theorem sub_nat (σ : Sto) {m n : Nat} (h : n ≤ m) : binop σ .Sub (.p (nD m)) (.p (nD n)) = some (.p (nD (m - n))) := by
  show some (V.p (.int ((m : Int) - (n : Int)))) = _
  rw [show (m : Int) - (n : Int) = ((m - n : Nat) : Int) from by omega]; rfl
end
noncomputable def def3 (k w a b : Nat) : D := .tuple [.str (kindS w), nD (1 + k - a), nD (if kindS w == bN then 1 + k - a else 1 + k - b)]
noncomputable abbrev figD (f0 f1 f2 f3 f4 f5 f6 f7 f8 : Nat) : List D := [nD f0, nD f1, nD f2, nD f3, nD f4, nD f5, nD f6, nD f7, nD f8]
noncomputable def dB (F : List D) : Rho := [("figures", .p (.list F)), ("told", .own 0)]
noncomputable def dB4 (F : List D) (k a b c : V) : Rho := [("figures", .p (.list F)), ("told", .own 0), ("k", k), ("kind", a), ("first", b), ("last", c)]
section
variable {f0 f1 f2 f3 f4 f5 f6 f7 f8 : Nat} {l : List D}
theorem dbody0 (hw : f0 < 5) (ha : f1 < 2) (hb : f2 < 2) (hl : l.length < lim) {ρ : Rho} (hρ : ρ = dB (figD f0 f1 f2 f3 f4 f5 f6 f7 f8)) : ∀ s1 tg it bd p s3, (fnAt 31).bd = [s1, .For tg it bd [] p, s3] →
    ∃ ρ1, bindT tg (.p (.int 0)) ρ = some ρ1 ∧ body (ex (cA fn2) 24 ["told"] 0 0 7 (fnAt 31).sc) bd ρ1 [l] = some (.next, dB4 (figD f0 f1 f2 f3 f4 f5 f6 f7 f8) (.p (.int 0)) (.p (.str (kindS f0))) (.p (nD (1 + 0 - f1))) (.p (nD (if kindS f0 == bN then 1 + 0 - f1 else 1 + 0 - f2))), [l ++ [def3 0 f0 f1 f2]]) := by
  intro s1 tg it bd p s3 hbd
  cases hbd
  subst hρ
  refine ⟨_, rfl, ?_⟩
  unfold def3
  cases hk : kindS f0 == bN with
  | true =>
    rw [if_pos rfl]
    exact b_cons (s_name rfl rfl rfl (e_sub (fun _ _ _ _ h => nomatch h) rfl rfl (sub5 _ _ hw))) (b_cons (s_name rfl rfl rfl (e_bin (u := .p (nD 1)) (w := .p (nD f1)) rfl rfl (sub_nat _ (by omega)))) (b_cons (s_name rfl rfl rfl (e_if_t (t_cmp rfl rfl (Eq.trans (eq_not _ _ _) (by rw [hk]))) rfl)) (b_cons (s_appendE (j := 0) (l0 := l) rfl rfl rfl (evA_e rfl (e_tuple rfl (evs_c (fun _ _ h => nomatch h) rfl (evs_c (fun _ _ h => nomatch h) rfl (evs_c (fun _ _ h => nomatch h) rfl rfl))) rfl)) (Nat.le_refl _) rfl hl rfl) b_nil)))
  | false =>
    rw [if_neg (by decide)]
    exact b_cons (s_name rfl rfl rfl (e_sub (fun _ _ _ _ h => nomatch h) rfl rfl (sub5 _ _ hw))) (b_cons (s_name rfl rfl rfl (e_bin (u := .p (nD 1)) (w := .p (nD f1)) rfl rfl (sub_nat _ (by omega)))) (b_cons (s_name rfl rfl rfl (e_if_f (t_cmp rfl rfl (Eq.trans (eq_not _ _ _) (by rw [hk]))) (e_bin (u := .p (nD 1)) (w := .p (nD f2)) rfl rfl (sub_nat _ (by omega))))) (b_cons (s_appendE (j := 0) (l0 := l) rfl rfl rfl (evA_e rfl (e_tuple rfl (evs_c (fun _ _ h => nomatch h) rfl (evs_c (fun _ _ h => nomatch h) rfl (evs_c (fun _ _ h => nomatch h) rfl rfl))) rfl)) (Nat.le_refl _) rfl hl rfl) b_nil)))
theorem dbody1 (hw : f3 < 5) (ha : f4 < 3) (hb : f5 < 3) (hl : l.length < lim) {ρ : Rho} (hρ : ∃ u x y z, ρ = dB4 (figD f0 f1 f2 f3 f4 f5 f6 f7 f8) u x y z) : ∀ s1 tg it bd p s3, (fnAt 31).bd = [s1, .For tg it bd [] p, s3] →
    ∃ ρ1, bindT tg (.p (.int 1)) ρ = some ρ1 ∧ body (ex (cA fn2) 24 ["told"] 0 0 7 (fnAt 31).sc) bd ρ1 [l] = some (.next, dB4 (figD f0 f1 f2 f3 f4 f5 f6 f7 f8) (.p (.int 1)) (.p (.str (kindS f3))) (.p (nD (1 + 1 - f4))) (.p (nD (if kindS f3 == bN then 1 + 1 - f4 else 1 + 1 - f5))), [l ++ [def3 1 f3 f4 f5]]) := by
  intro s1 tg it bd p s3 hbd
  cases hbd
  obtain ⟨u, x, y, z, rfl⟩ := hρ
  refine ⟨_, rfl, ?_⟩
  unfold def3
  cases hk : kindS f3 == bN with
  | true =>
    rw [if_pos rfl]
    exact b_cons (s_name rfl rfl rfl (e_sub (fun _ _ _ _ h => nomatch h) rfl rfl (sub5 _ _ hw))) (b_cons (s_name rfl rfl rfl (e_bin (u := .p (nD 2)) (w := .p (nD f4)) rfl rfl (sub_nat _ (by omega)))) (b_cons (s_name rfl rfl rfl (e_if_t (t_cmp rfl rfl (Eq.trans (eq_not _ _ _) (by rw [hk]))) rfl)) (b_cons (s_appendE (j := 0) (l0 := l) rfl rfl rfl (evA_e rfl (e_tuple rfl (evs_c (fun _ _ h => nomatch h) rfl (evs_c (fun _ _ h => nomatch h) rfl (evs_c (fun _ _ h => nomatch h) rfl rfl))) rfl)) (Nat.le_refl _) rfl hl rfl) b_nil)))
  | false =>
    rw [if_neg (by decide)]
    exact b_cons (s_name rfl rfl rfl (e_sub (fun _ _ _ _ h => nomatch h) rfl rfl (sub5 _ _ hw))) (b_cons (s_name rfl rfl rfl (e_bin (u := .p (nD 2)) (w := .p (nD f4)) rfl rfl (sub_nat _ (by omega)))) (b_cons (s_name rfl rfl rfl (e_if_f (t_cmp rfl rfl (Eq.trans (eq_not _ _ _) (by rw [hk]))) (e_bin (u := .p (nD 2)) (w := .p (nD f5)) rfl rfl (sub_nat _ (by omega))))) (b_cons (s_appendE (j := 0) (l0 := l) rfl rfl rfl (evA_e rfl (e_tuple rfl (evs_c (fun _ _ h => nomatch h) rfl (evs_c (fun _ _ h => nomatch h) rfl (evs_c (fun _ _ h => nomatch h) rfl rfl))) rfl)) (Nat.le_refl _) rfl hl rfl) b_nil)))
theorem dbody2 (hw : f6 < 5) (ha : f7 < 4) (hb : f8 < 4) (hl : l.length < lim) {ρ : Rho} (hρ : ∃ u x y z, ρ = dB4 (figD f0 f1 f2 f3 f4 f5 f6 f7 f8) u x y z) : ∀ s1 tg it bd p s3, (fnAt 31).bd = [s1, .For tg it bd [] p, s3] →
    ∃ ρ1, bindT tg (.p (.int 2)) ρ = some ρ1 ∧ body (ex (cA fn2) 24 ["told"] 0 0 7 (fnAt 31).sc) bd ρ1 [l] = some (.next, dB4 (figD f0 f1 f2 f3 f4 f5 f6 f7 f8) (.p (.int 2)) (.p (.str (kindS f6))) (.p (nD (1 + 2 - f7))) (.p (nD (if kindS f6 == bN then 1 + 2 - f7 else 1 + 2 - f8))), [l ++ [def3 2 f6 f7 f8]]) := by
  intro s1 tg it bd p s3 hbd
  cases hbd
  obtain ⟨u, x, y, z, rfl⟩ := hρ
  refine ⟨_, rfl, ?_⟩
  unfold def3
  cases hk : kindS f6 == bN with
  | true =>
    rw [if_pos rfl]
    exact b_cons (s_name rfl rfl rfl (e_sub (fun _ _ _ _ h => nomatch h) rfl rfl (sub5 _ _ hw))) (b_cons (s_name rfl rfl rfl (e_bin (u := .p (nD 3)) (w := .p (nD f7)) rfl rfl (sub_nat _ (by omega)))) (b_cons (s_name rfl rfl rfl (e_if_t (t_cmp rfl rfl (Eq.trans (eq_not _ _ _) (by rw [hk]))) rfl)) (b_cons (s_appendE (j := 0) (l0 := l) rfl rfl rfl (evA_e rfl (e_tuple rfl (evs_c (fun _ _ h => nomatch h) rfl (evs_c (fun _ _ h => nomatch h) rfl (evs_c (fun _ _ h => nomatch h) rfl rfl))) rfl)) (Nat.le_refl _) rfl hl rfl) b_nil)))
  | false =>
    rw [if_neg (by decide)]
    exact b_cons (s_name rfl rfl rfl (e_sub (fun _ _ _ _ h => nomatch h) rfl rfl (sub5 _ _ hw))) (b_cons (s_name rfl rfl rfl (e_bin (u := .p (nD 3)) (w := .p (nD f7)) rfl rfl (sub_nat _ (by omega)))) (b_cons (s_name rfl rfl rfl (e_if_f (t_cmp rfl rfl (Eq.trans (eq_not _ _ _) (by rw [hk]))) (e_bin (u := .p (nD 3)) (w := .p (nD f8)) rfl rfl (sub_nat _ (by omega))))) (b_cons (s_appendE (j := 0) (l0 := l) rfl rfl rfl (evA_e rfl (e_tuple rfl (evs_c (fun _ _ h => nomatch h) rfl (evs_c (fun _ _ h => nomatch h) rfl (evs_c (fun _ _ h => nomatch h) rfl rfl))) rfl)) (Nat.le_refl _) rfl hl rfl) b_nil)))
theorem defs_ok (h0 : f0 < 5) (h1 : f1 < 2) (h2 : f2 < 2) (h3 : f3 < 5) (h4 : f4 < 3) (h5 : f5 < 3) (h6 : f6 < 5) (h7 : f7 < 4) (h8 : f8 < 4) :
    gDefs [] [.p (.list (figD f0 f1 f2 f3 f4 f5 f6 f7 f8))] = some (.p (.list [def3 0 f0 f1 f2, def3 1 f3 f4 f5, def3 2 f6 f7 f8, .tuple [.str bN, nD 4, nD 4], .tuple [.str bN, nD 5, nD 5]])) := by
  have e0 : ∃ s1 tg it bd p s3, (fnAt 31).bd = [s1, .For tg it bd [] p, s3] := ⟨_, _, _, _, _, _, rfl⟩
  obtain ⟨s1, tg, it, bd, p, s3, hbd⟩ := e0
  obtain ⟨r1, b1, e1⟩ := dbody0 (f3 := f3) (f4 := f4) (f5 := f5) (f6 := f6) (f7 := f7) (f8 := f8) (l := []) h0 h1 h2 (by simp [lim]) rfl s1 tg it bd p s3 hbd
  obtain ⟨r2, b2, e2⟩ := dbody1 (f0 := f0) (f1 := f1) (f2 := f2) (f6 := f6) (f7 := f7) (f8 := f8) (l := [def3 0 f0 f1 f2]) h3 h4 h5 (by simp [lim]) ⟨_, _, _, _, rfl⟩ s1 tg it bd p s3 hbd
  obtain ⟨r3, b3, e3⟩ := dbody2 (f0 := f0) (f1 := f1) (f2 := f2) (f3 := f3) (f4 := f4) (f5 := f5) (l := [def3 0 f0 f1 f2, def3 1 f3 f4 f5]) h6 h7 h8 (by simp [lim]) ⟨_, _, _, _, rfl⟩ s1 tg it bd p s3 hbd
  cases hbd
  exact run_PE (σ' := [[def3 0 f0 f1 f2, def3 1 f3 f4 f5, def3 2 f6 f7 f8]]) rfl (b_consX (s_fresh rfl rfl rfl) (b_consX (s_for (v := .rng 0 1 3) (l := [.int 0, .int 1, .int 2]) rfl rfl rfl (f_next b1 e1 (f_next b2 e2 (f_next b3 e3 f_nil)))) ⟨_, b_ret (s_ret rfl)⟩))
end
-- E27
section
variable {C : Ctx} {σ : Sto} {l : List Nat} {n : Nat}
theorem small_nat (h : n < 1000) : small (n : Int) = true := by
  unfold small
  rw [Bool.and_eq_true]
  exact ⟨decide_eq_true (by omega), decide_eq_true (by omega)⟩
theorem idx_nat {m : Nat} (h : n < m) : idx (n : Int) m = some n := by
  unfold idx
  rw [if_pos (decide_eq_true (by omega)), if_pos (decide_eq_true (by omega))]; rfl
theorem sub_int {x : V} {i : Int} (hx : x.hdr? = none) : subV C σ x (.p (.int i)) = item σ x i := by
  have h : (V.p (.int i)).int? = some i := rfl
  unfold subV; rw [hx, h, Option.bind_none, Option.none_or, Option.bind_some]
theorem sub_at {x : V} {L : List D} {d : D} (hx : x.hdr? = none) (hs : x.str? = none) (ht : x.tup? = none) (hL : lst? σ x = some L) (hn : n < 1000) (h : L[n]? = some d) : subV C σ x (.p (nD n)) = some (.p d) := by
  unfold nD
  rw [sub_int hx]
  unfold item; rw [if_pos (small_nat hn), hs, ht, hL, Option.bind_none, Option.none_or, Option.bind_none, Option.none_or, Option.bind_some, idx_nat (List.getElem?_eq_some_iff.mp h).1, Option.bind_some, h]; rfl
theorem sub_list {L : List D} {d : D} (hn : n < 1000) (h : L[n]? = some d) : subV C σ (.p (.list L)) (.p (nD n)) = some (.p d) := sub_at rfl rfl rfl rfl hn h
theorem part_nat (h : n < 1000) : part? (.p (nD n)) = some (some (n : Int)) := by
  have hs := small_nat h
  have h1 : (V.p (nD n)).int? = some (n : Int) := rfl
  have h2 : (V.p (nD n)).none? = none := rfl
  unfold part?; rw [h1, h2, Option.map_none, Option.none_or, Option.bind_some, if_pos hs]
theorem add_nat (σ : Sto) (m n : Nat) : binop σ .Add (.p (nD m)) (.p (nD n)) = some (.p (nD (m + n))) := by
  show some (V.p (.int ((m : Int) + (n : Int)))) = _
  rw [show (m : Int) + (n : Int) = ((m + n : Nat) : Int) from by omega]; rfl
end
theorem perm_erase {l : List Nat} {n : Nat} (h : n < l.length) : (l[n] :: l.eraseIdx n).Perm l := by
  have e : l = l.take n ++ l[n] :: l.drop (n + 1) := by rw [← List.drop_eq_getElem_cons h, List.take_append_drop]
  rw [List.eraseIdx_eq_take_drop_succ]
  conv => rhs; rw [e]
  exact List.perm_middle.symm
noncomputable def permS : List Nat → List Nat → List Nat
  | _, [] => []
  | left, n :: ns => left.getD n 0 :: permS (left.eraseIdx n) ns
noncomputable def bsDown : Nat → List Nat
  | 0 => []
  | n + 1 => (n + 1) :: bsDown n
theorem permS_perm : ∀ {left ns : List Nat}, Bd ns (bsDown left.length) → (permS left ns).Perm left
  | [], [], _ => .nil
  | [], _ :: _, h => h.elim
  | a :: left, [], h => h.elim
  | a :: left, n :: ns, h => by
    obtain ⟨h1, h2⟩ := h
    have hl : ((a :: left).eraseIdx n).length = left.length := by
      rw [List.length_eraseIdx_of_lt (by simpa using h1)]; rfl
    have ih := permS_perm (left := (a :: left).eraseIdx n) (ns := ns) (by rw [hl]; exact h2)
    have e : (a :: left).getD n 0 = (a :: left)[n]'(by simpa using h1) := by rw [List.getD_eq_getElem?_getD, List.getElem?_eq_getElem (by simpa using h1)]; rfl
    show ((a :: left).getD n 0 :: permS ((a :: left).eraseIdx n) ns).Perm (a :: left)
    rw [e]
    exact (List.Perm.cons _ ih).trans (perm_erase (by simpa using h1))
section
variable {c1 c2 c3 c4 c5 : V} {left : List Nat} {line : List D}
noncomputable def aE (a b c d e : V) (left : List Nat) : Rho := [("script", a), ("cells", b), ("drawn", c), ("defs", d), ("dress", e), ("left", .p (.list (left.map nD))), ("line", .own 0)]
noncomputable def aE1 (a b c d e : V) (left : List Nat) (f : V) : Rho := [("script", a), ("cells", b), ("drawn", c), ("defs", d), ("dress", e), ("left", .p (.list (left.map nD))), ("line", .own 0), ("figure", f)]
abbrev lawMu : List Str := ["line", "rows", "quiet", "marks", "worlds"]
theorem pickUp {l : List Nat} {n : Nat} (h : n ≤ l.length) : pick (l.map nD) none (some (n : Int)) none = (l.take n).map nD := by
  rw [pick_upto _ _ (by rw [List.length_map]; exact h), List.map_take]
theorem pickFrom {l : List Nat} {n : Nat} (h : n ≤ l.length) : pick (l.map nD) (some (n : Int)) none none = (l.drop n).map nD := by
  rw [pick_from _ _ (by rw [List.length_map]; exact h), List.map_drop]
theorem line_body {n : Nat} (hn : n < left.length) (hl6 : left.length ≤ 6) (hline : line.length ≤ 6) {ρ : Rho} (hρ : ρ = aE c1 c2 c3 c4 c5 left ∨ ∃ f, ρ = aE1 c1 c2 c3 c4 c5 left f) :
    ∀ tg it bd p (rest pre : List Stmt), (fnAt 39).bd = pre ++ .For tg it bd [] p :: rest → pre.length = 7 →
    ∃ ρ1, bindT tg (.p (nD n)) ρ = some ρ1 ∧ body (ex ctx6 24 lawMu 0 0 7 (fnAt 39).sc) bd ρ1 [line] = some (.next, aE1 c1 c2 c3 c4 c5 (left.eraseIdx n) (.p (nD n)), [line ++ [nD (left.getD n 0)]]) := by
  intro tg it bd p rest pre hbd hpre
  have e0 : ∃ s0 s1 s2 s3 s4 s5 s6 tg' it' bd' p' rest', (fnAt 39).bd = [s0, s1, s2, s3, s4, s5, s6] ++ .For tg' it' bd' [] p' :: rest' := ⟨_, _, _, _, _, _, _, _, _, _, _, _, rfl⟩
  have hget : (left.map nD)[n]? = some (nD (left.getD n 0)) := by
    rw [List.getElem?_map, List.getElem?_eq_getElem hn, List.getD_eq_getElem?_getD, List.getElem?_eq_getElem hn]; rfl
  have hsub := fun (σ : Sto) => sub_list (C := ctx6) (σ := σ) (by omega : n < 1000) hget
  have hl1 : line.length < lim := pos_lim (by omega)
  have hlL : (left.map nD).length ≤ lim := by rw [List.length_map]; exact pos_lim' (by omega)
  have s1 : ∀ σ, sliced σ (.p (.list (left.map nD))) none (some (n : Int)) none = some (.p (.list ((left.take n).map nD))) := fun σ => by rw [sliced_list hlL rfl, pickUp (by omega)]
  have s2 : ∀ σ, sliced σ (.p (.list (left.map nD))) (some ((n + 1 : Nat) : Int)) none none = some (.p (.list ((left.drop (n + 1)).map nD))) := fun σ => by rw [sliced_list hlL rfl, pickFrom (by omega)]
  have hadd : ∀ σ, binop σ .Add (.p (.list ((left.take n).map nD))) (.p (.list ((left.drop (n + 1)).map nD))) = some (.p (.list ((left.eraseIdx n).map nD))) := fun σ => by
    rw [add_list (pos_lim' (by simp only [List.length_map, List.length_take, List.length_drop]; omega)), ← List.map_append, List.eraseIdx_eq_take_drop_succ]
  have hpart := part_nat (n := n) (by omega)
  have hpart1 := part_nat (n := n + 1) (by omega)
  match pre, hpre with
  | [_, _, _, _, _, _, _], _ =>
    cases hbd
    rcases hρ with rfl | ⟨f, rfl⟩
    all_goals
      refine ⟨_, rfl, ?_⟩
      exact b_cons (s_appendE (j := 0) (l0 := line) rfl rfl rfl (evA_e rfl (e_sub (fun _ _ _ _ h => nomatch h) rfl rfl (hsub _))) (Nat.le_refl _) rfl hl1 rfl) (b_cons (s_name rfl rfl rfl (e_bin (e_slice (a := .p .none) (b := .p (nD n)) (c := .p .none) rfl rfl rfl rfl rfl hpart rfl (s1 _)) (e_slice (a := .p (nD (n + 1))) (b := .p .none) (c := .p .none) rfl (e_bin (u := .p (nD n)) (w := .p (nD 1)) rfl rfl (add_nat _ _ _)) rfl rfl hpart1 rfl rfl (s2 _)) (hadd _))) b_nil)
end
-- E28
theorem bd_len : ∀ {ns bs : List Nat}, Bd ns bs → ns.length = bs.length
  | [], [], _ => rfl
  | _ :: ns, _ :: bs, h => by rw [List.length_cons, List.length_cons, bd_len h.2]
  | [], _ :: _, h => h.elim
  | _ :: _, [], h => h.elim
section
variable {c1 c2 c3 c4 c5 : V}
theorem line_loop1 : ∀ (ns left : List Nat) (line : List D) (f : V), Bd ns (bsDown left.length) → line.length + left.length ≤ 6 →
    ∀ tg it bd p (rest pre : List Stmt), (fnAt 39).bd = pre ++ .For tg it bd [] p :: rest → pre.length = 7 →
    ∃ ρ' left', (∃ f', ρ' = aE1 c1 c2 c3 c4 c5 left' f') ∧ forGo (fun ρ σ => body (ex ctx6 24 lawMu 0 0 7 (fnAt 39).sc) bd ρ σ) (fun d ρ => bindT tg (.p d) ρ) (ns.map nD) (aE1 c1 c2 c3 c4 c5 left f) [line] = some (.next, ρ', [line ++ (permS left ns).map nD])
  | [], left, line, f, _, _ => fun tg it bd p rest pre hbd hpre => ⟨_, left, ⟨f, rfl⟩, by simp [permS, forGo]⟩
  | n :: ns, [], line, f, h, _ => h.elim
  | n :: ns, a :: left, line, f, h, hl => by
    intro tg it bd p rest pre hbd hpre
    obtain ⟨h1, h2⟩ := h
    simp only [List.length_cons] at hl
    have hn : n < (a :: left).length := by simpa using h1
    obtain ⟨ρ1, e1, e2⟩ := line_body (c1 := c1) (c2 := c2) (c3 := c3) (c4 := c4) (c5 := c5) (left := a :: left) (line := line) hn (by simp only [List.length_cons]; omega) (by omega) (.inr ⟨f, rfl⟩) tg it bd p rest pre hbd hpre
    have hll : ((a :: left).eraseIdx n).length = left.length := by rw [List.length_eraseIdx_of_lt hn]; rfl
    obtain ⟨ρ', left', hP, e3⟩ := line_loop1 ns ((a :: left).eraseIdx n) (line ++ [nD ((a :: left).getD n 0)]) (.p (nD n)) (by rw [hll]; exact h2) (by rw [hll]; simp only [List.length_append, List.length_cons, List.length_nil]; omega) tg it bd p rest pre hbd hpre
    refine ⟨ρ', left', hP, ?_⟩
    rw [List.map_cons]
    refine f_next e1 e2 ?_
    rw [e3, List.append_assoc]
    rfl
end
noncomputable def tieS (s : List (List Nat)) (t i j : Nat) : List (List Nat) := if t == 1 then s.set i (s.getD i [] ++ (s.getD j []).filter fun w => !((s.getD i []).any (· == w))) else s
noncomputable def seesS (t0 t1 t2 t3 t4 t5 : Nat) : List (List Nat) := tieS (tieS (tieS (tieS (tieS (tieS [[0], [1], [2], [3]] t5 2 3) t4 1 3) t3 1 2) t2 0 3) t1 0 2) t0 0 1
noncomputable def lD (s : List (List Nat)) : List D := s.map fun l => D.list (l.map nD)
set_option maxHeartbeats 0 in
theorem sees_ok (l : List D) : ∀ t0 < 2, ∀ t1 < 2, ∀ t2 < 2, ∀ t3 < 2, ∀ t4 < 2, ∀ t5 < 2, gSees [l] [.p (.list [nD t0, nD t1, nD t2, nD t3, nD t4, nD t5])] = some (.p (.list (lD (seesS t0 t1 t2 t3 t4 t5)))) := by
  intro t0 h0 t1 h1 t2 h2 t3 h3 t4 h4 t5 h5
  have e : ∀ {t : Nat}, t < 2 → t = 0 ∨ t = 1 := fun h => by omega
  rcases e h0 with rfl | rfl <;> rcases e h1 with rfl | rfl <;> rcases e h2 with rfl | rfl <;> rcases e h3 with rfl | rfl <;> rcases e h4 with rfl | rfl <;> rcases e h5 with rfl | rfl <;> kernel_rfl
-- E29
abbrev Ws := Nat → Bool
noncomputable def m4 (a b c d : Bool) : Nat := (if a then 1 else 0) + (if b then 2 else 0) + (if c then 4 else 0) + (if d then 8 else 0)
noncomputable def mk4 (p : Ws) : Nat := m4 (p 0) (p 1) (p 2) (p 3)
theorem m4_lt : ∀ a b c d, m4 a b c d < 16 := by decide
theorem m4_and : ∀ a b c d a' b' c' d', m4 a b c d &&& m4 a' b' c' d' = m4 (a && a') (b && b') (c && c') (d && d') := by decide +kernel
theorem m4_or : ∀ a b c d a' b' c' d', m4 a b c d ||| m4 a' b' c' d' = m4 (a || a') (b || b') (c || c') (d || d') := by decide +kernel
theorem m4_not : ∀ a b c d, 15 ^^^ m4 a b c d = m4 (!a) (!b) (!c) (!d) := by decide +kernel
theorem m4_zero : ∀ a b c d, (m4 a b c d == 0) = !(a || b || c || d) := by decide +kernel
theorem m4_bit : ∀ a b c d, (m4 a b c d).testBit 0 = a ∧ (m4 a b c d).testBit 1 = b ∧ (m4 a b c d).testBit 2 = c ∧ (m4 a b c d).testBit 3 = d := by decide +kernel
theorem mk4_lt (p : Ws) : mk4 p < 16 := m4_lt _ _ _ _
theorem mk4_bit (p : Ws) : ∀ i < 4, (mk4 p).testBit i = p i := by
  intro i hi
  have : i = 0 ∨ i = 1 ∨ i = 2 ∨ i = 3 := by omega
  obtain ⟨a, b, c, d⟩ := m4_bit (p 0) (p 1) (p 2) (p 3)
  rcases this with rfl | rfl | rfl | rfl <;> assumption
theorem W_mk4 (p : Ws) : W (mk4 p) = (List.range 4).filter p := by
  unfold W
  refine List.filter_congr fun i hi => ?_
  exact mk4_bit p i (by simpa using hi)
theorem mk4_ext {p q : Ws} (h : ∀ i < 4, p i = q i) : mk4 p = mk4 q := by
  unfold mk4; rw [h 0 (by decide), h 1 (by decide), h 2 (by decide), h 3 (by decide)]
theorem mk4_and (p q : Ws) : mk4 p &&& mk4 q = mk4 fun i => p i && q i := m4_and _ _ _ _ _ _ _ _
theorem mk4_or (p q : Ws) : mk4 p ||| mk4 q = mk4 fun i => p i || q i := m4_or _ _ _ _ _ _ _ _
theorem mk4_not (p : Ws) : 15 ^^^ mk4 p = mk4 fun i => !p i := m4_not _ _ _ _
theorem mk4_zero (p : Ws) : (mk4 p == 0) = !(p 0 || p 1 || p 2 || p 3) := m4_zero _ _ _ _
theorem zeros_mk4 (a b c d : Nat) : zeros a b c d = mk4 fun i => match i with | 0 => a == 0 | 1 => b == 0 | 2 => c == 0 | _ => d == 0 := rfl
abbrev Fr4 := Nat → List Nat
noncomputable def cone (S : Fr4) (i : Nat) : Nat := mk4 fun j => (S i).any (· == j)
structure Fr4.Ok (S : Fr4) : Prop where
  lt : ∀ i < 4, ∀ j ∈ S i, j < 4
  refl : ∀ i < 4, i ∈ S i
  trans : ∀ i < 4, ∀ j ∈ S i, ∀ k ∈ S j, k ∈ S i
  ends : ∀ i < 4, ∃ j ∈ S i, S j = [j]
  sum : ∀ i < 4, ((S i).map fun j => 8 ^ j).sum = code (cone S i)
  len : ∀ i < 4, (S i).length ≤ 4
noncomputable def frameOf (s : List (List Nat)) : Fr4 := fun i => s.getD i []
noncomputable def frChk (s : List (List Nat)) : Bool :=
  (List.range 4).all fun i => ((frameOf s i).all fun j => decide (j < 4)) && (frameOf s i).contains i && ((frameOf s i).all fun j => (frameOf s j).all fun k => (frameOf s i).contains k) && ((frameOf s i).any fun j => frameOf s j == [j]) &&
    ((frameOf s i).map fun j => 8 ^ j).sum == code (cone (frameOf s) i) && decide ((frameOf s i).length ≤ 4)
theorem frChk_ok {s : List (List Nat)} (h : frChk s = true) : (frameOf s).Ok := by
  unfold frChk at h
  rw [List.all_eq_true] at h
  have h' : ∀ i < 4, _ := fun i hi => h i (by simpa using hi)
  simp only [Bool.and_eq_true, List.all_eq_true, List.any_eq_true, decide_eq_true_eq, List.contains_iff_mem, beq_iff_eq] at h'
  exact ⟨fun i hi => (h' i hi).1.1.1.1.1, fun i hi => (h' i hi).1.1.1.1.2, fun i hi => (h' i hi).1.1.1.2, fun i hi => (h' i hi).1.1.2, fun i hi => (h' i hi).1.2, fun i hi => (h' i hi).2⟩
theorem sees_chk : ∀ t0 < 2, ∀ t1 < 2, ∀ t2 < 2, ∀ t3 < 2, ∀ t4 < 2, ∀ t5 < 2, frChk (seesS t0 t1 t2 t3 t4 t5) = true ∧ (seesS t0 t1 t2 t3 t4 t5).length = 4 := by
  intro t0 h0 t1 h1 t2 h2 t3 h3 t4 h4 t5 h5
  have e : ∀ {t : Nat}, t < 2 → t = 0 ∨ t = 1 := fun h => by omega
  rcases e h0 with rfl | rfl <;> rcases e h1 with rfl | rfl <;> rcases e h2 with rfl | rfl <;> rcases e h3 with rfl | rfl <;> rcases e h4 with rfl | rfl <;> rcases e h5 with rfl | rfl <;> decide +kernel
noncomputable def forcedS (S : Fr4) (k : List Nat) (p q : Ws) : Ws := fun i =>
  if k == bA then p i && q i else if k == bO then p i || q i
  else ((S i).filter fun j => p j && !((k == bT) && q j)).isEmpty
noncomputable def Up (S : Fr4) (p : Ws) : Prop := ∀ i < 4, ∀ j ∈ S i, p i = true → p j = true
noncomputable def SameEnds (S : Fr4) (p p' : Ws) : Prop := ∀ i < 4, S i = [i] → p i = p' i
noncomputable def flat4 : Fr4 := fun i => [i]
section
variable {S : Fr4} {k : List Nat} {p q p' q' : Ws}
theorem empty_filter {l : List Nat} {f : Nat → Bool} : (l.filter f).isEmpty = true ↔ ∀ j ∈ l, f j = false := by
  rw [List.isEmpty_iff, List.filter_eq_nil_iff]
  exact ⟨fun h j hj => by simpa using h j hj, fun h j hj => by simp [h j hj]⟩
theorem forced_up (O : S.Ok) (hp : Up S p) (hq : Up S q) : Up S (forcedS S k p q) := by
  intro i hi j hj h
  have hj4 := O.lt i hi j hj
  unfold forcedS at h ⊢
  split
  · rename_i hk
    rw [if_pos hk, Bool.and_eq_true] at h
    rw [hp i hi j hj h.1, hq i hi j hj h.2]; rfl
  · rename_i hk
    rw [if_neg hk] at h
    split
    · rename_i ho
      rw [if_pos ho, Bool.or_eq_true] at h
      rw [Bool.or_eq_true]
      exact h.imp (hp i hi j hj) (hq i hi j hj)
    · rename_i ho
      rw [if_neg ho, empty_filter] at h
      rw [empty_filter]
      exact fun m hm => h m (O.trans i hi j hj m hm)
theorem forced_ends (hp : SameEnds S p p') (hq : SameEnds S q q') : SameEnds S (forcedS S k p q) (forcedS flat4 k p' q') := by
  intro i hi he
  unfold forcedS
  rw [hp i hi he, hq i hi he, he]
  split
  · rfl
  · split
    · rfl
    · show (List.filter _ [i]).isEmpty = (List.filter _ [i]).isEmpty
      rw [List.filter_cons, List.filter_cons, hp i hi he, hq i hi he]
      rfl
theorem not_ends (O : S.Ok) (hp : Up S p) (he : SameEnds S p p') : ∀ i < 4, forcedS S bN p q i = ((S i).filter fun j => (S j == [j]) && p' j).isEmpty := by
  intro i hi
  have e : forcedS S bN p q i = ((S i).filter fun j => p j && !((bN == bT) && q j)).isEmpty := rfl
  rw [e, Bool.eq_iff_iff, empty_filter, empty_filter]
  constructor
  · intro h j hj
    have h1 := h j hj
    have h4 := O.lt i hi j hj
    cases hjj : S j == [j] with
    | false => rfl
    | true =>
      have h2 : p j = false := by cases hpj : p j with | false => rfl | true => rw [hpj] at h1; cases h1
      rw [← he j h4 (eq_of_beq hjj), h2]; rfl
  · intro h j hj
    have h4 := O.lt i hi j hj
    cases hpj : p j with
    | false => rfl
    | true =>
      obtain ⟨e, he1, he2⟩ := O.ends j h4
      have e4 := O.lt j h4 e he1
      have h1 := h e (O.trans i hi j hj e he1)
      rw [beq_iff_eq.mpr he2, ← he e e4 he2, hp j h4 e he1 hpj] at h1
      cases h1
theorem notnot_ends (O : S.Ok) (hp : Up S p) (he : SameEnds S p p') : ∀ i < 4, forcedS S bN (forcedS S bN p q) q' i = ((S i).filter fun j => (S j == [j]) && !p' j).isEmpty := by
  intro i hi
  have e : forcedS S bN (forcedS S bN p q) q' i = ((S i).filter fun j => forcedS S bN p q j && !((bN == bT) && q' j)).isEmpty := rfl
  rw [e, Bool.eq_iff_iff, empty_filter, empty_filter]
  constructor
  · intro h j hj
    have h1 := h j hj
    have h4 := O.lt i hi j hj
    cases hjj : S j == [j] with
    | false => rfl
    | true =>
      have hj' := eq_of_beq hjj
      rw [not_ends O hp he j h4] at h1
      cases hpj : p' j with
      | true => rfl
      | false =>
        have : ((S j).filter fun j => (S j == [j]) && p' j).isEmpty = true := by
          rw [empty_filter, hj']
          intro m hm
          rw [List.mem_singleton] at hm
          subst hm
          rw [hpj, Bool.and_false]
        rw [this] at h1; cases h1
  · intro h j hj
    have h4 := O.lt i hi j hj
    rw [not_ends O hp he j h4]
    cases hE : ((S j).filter fun j => (S j == [j]) && p' j).isEmpty with
    | false => rfl
    | true =>
      rw [empty_filter] at hE
      obtain ⟨e, he1, he2⟩ := O.ends j h4
      have e4 := O.lt j h4 e he1
      have h1 := h e (O.trans i hi j hj e he1)
      have h2 := hE e he1
      rw [beq_iff_eq.mpr he2, Bool.true_and] at h1 h2
      rw [h2] at h1; cases h1
theorem any_filter_empty {l : List Nat} (hl : ∀ j ∈ l, j < 4) (f : Ws) : (mk4 (fun j => l.any (· == j) && f j) == 0) = (l.filter f).isEmpty := by
  rw [mk4_zero, Bool.eq_iff_iff, empty_filter, Bool.not_eq_true', Bool.or_eq_false_iff, Bool.or_eq_false_iff, Bool.or_eq_false_iff]
  have hm : ∀ j, j ∈ l → l.any (· == j) = true := fun j hj => List.any_eq_true.mpr ⟨j, hj, by simp⟩
  constructor
  · rintro ⟨⟨⟨h0, h1⟩, h2⟩, h3⟩ j hj
    have hj4 := hl j hj
    have hh := hm j hj
    have : j = 0 ∨ j = 1 ∨ j = 2 ∨ j = 3 := by omega
    rcases this with rfl | rfl | rfl | rfl
    · rw [hh] at h0; exact h0
    · rw [hh] at h1; exact h1
    · rw [hh] at h2; exact h2
    · rw [hh] at h3; exact h3
  · intro h
    have key : ∀ j, (l.any (· == j) && f j) = false := fun j => by
      cases ha : l.any (· == j) with
      | false => rfl
      | true =>
        obtain ⟨x, hx, e⟩ := List.any_eq_true.mp ha
        rw [← eq_of_beq e, h x hx]; rfl
    exact ⟨⟨⟨key 0, key 1⟩, key 2⟩, key 3⟩
theorem forced_mk (O : S.Ok) (hk : k = bT ∨ k = bA ∨ k = bO ∨ k = bN) : mk4 (forcedS S k p q) =
    if k == bA then mk4 p &&& mk4 q else if k == bO then mk4 p ||| mk4 q
    else if k == bT then zeros (cone S 0 &&& mk4 p &&& (15 ^^^ mk4 q)) (cone S 1 &&& mk4 p &&& (15 ^^^ mk4 q)) (cone S 2 &&& mk4 p &&& (15 ^^^ mk4 q)) (cone S 3 &&& mk4 p &&& (15 ^^^ mk4 q))
    else zeros (cone S 0 &&& mk4 p) (cone S 1 &&& mk4 p) (cone S 2 &&& mk4 p) (cone S 3 &&& mk4 p) := by
  have h1 : ∀ i < 4, ((cone S i &&& mk4 p &&& (15 ^^^ mk4 q)) == 0) = ((S i).filter fun j => p j && !q j).isEmpty := fun i hi => by
    unfold cone
    rw [mk4_not, mk4_and, mk4_and, ← any_filter_empty (O.lt i hi)]
    congr 2
    funext j
    rw [Bool.and_assoc]
  have h2 : ∀ i < 4, ((cone S i &&& mk4 p) == 0) = ((S i).filter p).isEmpty := fun i hi => by
    unfold cone
    rw [mk4_and, ← any_filter_empty (O.lt i hi)]
  rcases hk with rfl | rfl | rfl | rfl
  · rw [if_neg (by decide), if_neg (by decide), if_pos (by decide), zeros_mk4]
    refine mk4_ext fun i hi => ?_
    have : i = 0 ∨ i = 1 ∨ i = 2 ∨ i = 3 := by omega
    rcases this with rfl | rfl | rfl | rfl
    · exact (h1 0 (by decide)).symm
    · exact (h1 1 (by decide)).symm
    · exact (h1 2 (by decide)).symm
    · exact (h1 3 (by decide)).symm
  · rw [if_pos (by decide), mk4_and]; rfl
  · rw [if_neg (by decide), if_pos (by decide), mk4_or]; rfl
  · rw [if_neg (by decide), if_neg (by decide), if_neg (by decide), zeros_mk4]
    have e : ∀ i, forcedS S bN p q i = ((S i).filter p).isEmpty := fun i => by
      show ((S i).filter fun j => p j && !((bN == bT) && q j)).isEmpty = _
      congr 2
      funext j
      rw [show (bN == bT) = false from by decide, Bool.false_and, Bool.not_false, Bool.and_true]
    refine mk4_ext fun i hi => ?_
    rw [e]
    have : i = 0 ∨ i = 1 ∨ i = 2 ∨ i = 3 := by omega
    rcases this with rfl | rfl | rfl | rfl
    · exact (h2 0 (by decide)).symm
    · exact (h2 1 (by decide)).symm
    · exact (h2 2 (by decide)).symm
    · exact (h2 3 (by decide)).symm
end
-- E30
section
variable {C : Ctx} {n : Nat} {sc : Sc} {ρ : Rho} {σ : Sto} {p q : Pos} {a b o i : Expr} {x y : Bool} {v : V}
theorem e_and (h1 : (ev C n).e sc ρ σ a = some (.p (.bool x))) (h2 : (ev C n).e sc ρ σ b = some (.p (.bool y))) : (ev C (n + 1)).e sc ρ σ (.BoolOp .And [a, b] p) = some (.p (.bool (x && y))) := bd h1 (by cases x <;> first | rfl | exact bd h2 rfl)
theorem e_or (h1 : (ev C n).e sc ρ σ a = some (.p (.bool x))) (h2 : (ev C n).e sc ρ σ b = some (.p (.bool y))) : (ev C (n + 1)).e sc ρ σ (.BoolOp .Or [a, b] p) = some (.p (.bool (x || y))) := bd h1 (by cases x <;> first | rfl | exact bd h2 rfl)
theorem t_andB (h1 : (ev C n).t sc ρ σ a = some x) (h2 : (ev C n).t sc ρ σ b = some y) : (ev C (n + 1)).t sc ρ σ (.BoolOp .And [a, b] p) = some (x && y) := bd h1 (by cases x <;> first | rfl | exact bd h2 (by cases y <;> rfl))
theorem t_orB (h1 : (ev C n).t sc ρ σ a = some x) (h2 : (ev C n).t sc ρ σ b = some y) : (ev C (n + 1)).t sc ρ σ (.BoolOp .Or [a, b] p) = some (x || y) := bd h1 (by cases x <;> first | rfl | exact bd h2 (by cases y <;> rfl))
theorem t_not (h : (ev C n).t sc ρ σ a = some x) : (ev C (n + 1)).t sc ρ σ (.UnaryOp .Not a p) = some (!x) := md h
theorem t_sub (h : (ev C n).e sc ρ σ (.Subscript o i p) = some v) (ht : truth σ v = some x) : (ev C (n + 1)).t sc ρ σ (.Subscript o i p) = some x := bd h ht
theorem eq_strs (C : Ctx) (σ : Sto) (k l : List Nat) : cmpOp C σ .Eq (.p (.str k)) (.p (.str l)) = some (k == l) := by
  show some ((k == l) != false) = _
  cases h : k == l <;> simp [h, bne]
end
noncomputable def bL (p : Ws) : List D := [.bool (p 0), .bool (p 1), .bool (p 2), .bool (p 3)]
noncomputable abbrev fr (s0 s1 s2 s3 : List Nat) : Fr4 := frameOf [s0, s1, s2, s3]
structure Lt4 (s0 s1 s2 s3 : List Nat) : Prop where
  h0 : (∀ j ∈ s0, j < 4) ∧ s0.length ≤ 4
  h1 : (∀ j ∈ s1, j < 4) ∧ s1.length ≤ 4
  h2 : (∀ j ∈ s2, j < 4) ∧ s2.length ≤ 4
  h3 : (∀ j ∈ s3, j < 4) ∧ s3.length ≤ 4
section
variable {σ : Sto} {s0 s1 s2 s3 : List Nat} {p q : Ws} {k : List Nat}
theorem four {j : Nat} (h : j < 4) : j = 0 ∨ j = 1 ∨ j = 2 ∨ j = 3 := by omega
theorem dec4 {l : List Nat} (h : l.length ≤ 4) : decide ((l.map nD).length ≤ lim) = true := decide_eq_true (by rw [List.length_map]; exact pos_lim' (by omega))
theorem forced_ok (σ : Sto) (hS : Lt4 s0 s1 s2 s3) : gForced σ [.p (.str k), .p (.list (bL p)), .p (.list (bL q)), .p (.list (lD [s0, s1, s2, s3]))] = some (.p (.list (bL (forcedS (fr s0 s1 s2 s3) k p q)))) := by
  refine run_PE (σ' := σ) rfl ?_
  cases hA : k == bA with
  | true =>
    have e : bL (forcedS (fr s0 s1 s2 s3) k p q) = bL fun i => p i && q i := by unfold bL forcedS; rw [hA]; rfl
    rw [e]
    exact ⟨_, b_ret (s_if_t (t_cmp rfl rfl (Eq.trans (eq_strs _ _ k bA) (congrArg some hA))) (b_ret (s_retP rfl (Eq.trans (e_compM (v := .rng 0 1 4) (g := nD) (l := [0, 1, 2, 3]) (keep := fun _ => true) (f := fun i => D.bool (p i && q i)) rfl rfl rfl fun i hi => ⟨_, rfl, rfl, fun _ => by
      have hi : i < 4 := by simp at hi; omega
      rcases four hi with rfl | rfl | rfl | rfl <;> exact e_and rfl rfl⟩) (by rw [filter_tt]; rfl)))))⟩
  | false =>
    cases hO : k == bO with
    | true =>
      have e : bL (forcedS (fr s0 s1 s2 s3) k p q) = bL fun i => p i || q i := by unfold bL forcedS; rw [hA, hO]; rfl
      rw [e]
      exact ⟨_, b_cons (s_if_f (t_cmp rfl rfl (Eq.trans (eq_strs _ _ k bA) (congrArg some hA))) b_nil) (b_ret (s_if_t (t_cmp rfl rfl (Eq.trans (eq_strs _ _ k bO) (congrArg some hO))) (b_ret (s_retP rfl (Eq.trans (e_compM (v := .rng 0 1 4) (g := nD) (l := [0, 1, 2, 3]) (keep := fun _ => true) (f := fun i => D.bool (p i || q i)) rfl rfl rfl fun i hi => ⟨_, rfl, rfl, fun _ => by
        have hi : i < 4 := by simp at hi; omega
        rcases four hi with rfl | rfl | rfl | rfl <;> exact e_or rfl rfl⟩) (by rw [filter_tt]; rfl))))))⟩
    | false =>
      have e : bL (forcedS (fr s0 s1 s2 s3) k p q) = bL fun i => ((fr s0 s1 s2 s3 i).filter fun j => p j && !((k == bT) && q j)).isEmpty := by unfold bL forcedS; rw [hA, hO]; rfl
      rw [e]
      exact ⟨_, b_cons (s_if_f (t_cmp rfl rfl (Eq.trans (eq_strs _ _ k bA) (congrArg some hA))) b_nil) (b_cons (s_if_f (t_cmp rfl rfl (Eq.trans (eq_strs _ _ k bO) (congrArg some hO))) b_nil) (b_ret (s_retP rfl (Eq.trans (e_compM (v := .rng 0 1 4) (g := nD) (l := [0, 1, 2, 3]) (keep := fun _ => true) (f := fun i => D.bool ((fr s0 s1 s2 s3 i).filter fun j => p j && !((k == bT) && q j)).isEmpty) rfl rfl rfl fun i hi => ⟨_, rfl, rfl, fun _ => by
        have hi : i < 4 := by simp at hi; omega
        rcases four hi with rfl | rfl | rfl | rfl
        · exact e_cmp (e_compM (v := .p (.list (s0.map nD))) (g := nD) (l := s0) (keep := fun j => p j && !((k == bT) && q j)) (f := nD) rfl rfl (and3 rfl rfl (dec4 hS.h0.2)) fun j hj => ⟨_, rfl, ifs1 (by
            rcases four (hS.h0.1 j hj) with rfl | rfl | rfl | rfl <;> exact t_andB (t_sub rfl rfl) (t_not (t_andB (t_cmp rfl rfl (eq_strs _ _ k bT)) (t_sub rfl rfl)))), fun _ => rfl⟩) rfl (Eq.trans (eq_nil _ _) (by rw [List.isEmpty_map]; rfl))
        · exact e_cmp (e_compM (v := .p (.list (s1.map nD))) (g := nD) (l := s1) (keep := fun j => p j && !((k == bT) && q j)) (f := nD) rfl rfl (and3 rfl rfl (dec4 hS.h1.2)) fun j hj => ⟨_, rfl, ifs1 (by
            rcases four (hS.h1.1 j hj) with rfl | rfl | rfl | rfl <;> exact t_andB (t_sub rfl rfl) (t_not (t_andB (t_cmp rfl rfl (eq_strs _ _ k bT)) (t_sub rfl rfl)))), fun _ => rfl⟩) rfl (Eq.trans (eq_nil _ _) (by rw [List.isEmpty_map]; rfl))
        · exact e_cmp (e_compM (v := .p (.list (s2.map nD))) (g := nD) (l := s2) (keep := fun j => p j && !((k == bT) && q j)) (f := nD) rfl rfl (and3 rfl rfl (dec4 hS.h2.2)) fun j hj => ⟨_, rfl, ifs1 (by
            rcases four (hS.h2.1 j hj) with rfl | rfl | rfl | rfl <;> exact t_andB (t_sub rfl rfl) (t_not (t_andB (t_cmp rfl rfl (eq_strs _ _ k bT)) (t_sub rfl rfl)))), fun _ => rfl⟩) rfl (Eq.trans (eq_nil _ _) (by rw [List.isEmpty_map]; rfl))
        · exact e_cmp (e_compM (v := .p (.list (s3.map nD))) (g := nD) (l := s3) (keep := fun j => p j && !((k == bT) && q j)) (f := nD) rfl rfl (and3 rfl rfl (dec4 hS.h3.2)) fun j hj => ⟨_, rfl, ifs1 (by
            rcases four (hS.h3.1 j hj) with rfl | rfl | rfl | rfl <;> exact t_andB (t_sub rfl rfl) (t_not (t_andB (t_cmp rfl rfl (eq_strs _ _ k bT)) (t_sub rfl rfl)))), fun _ => rfl⟩) rfl (Eq.trans (eq_nil _ _) (by rw [List.isEmpty_map]; rfl))
⟩) (by rw [filter_tt]; rfl)))))⟩
end
-- E31
section
variable {s0 s1 s2 s3 : List Nat}
theorem bit_ok : ∀ n < 16, ∀ j < 4, ((Int.fmod (Int.fdiv (n : Nat) ((2 : Int) ^ j)) 2 == 1) != false) = n.testBit j := by decide +kernel
theorem bit_bin (σ : Sto) {n j : Nat} : binop σ .FloorDiv (.p (nD n)) (.p (.int ((2 : Int) ^ j))) = if decide (0 < (2 : Int) ^ j) && small ((2 : Int) ^ j) then some (.p (.int (Int.fdiv (n : Nat) ((2 : Int) ^ j)))) else none := rfl
noncomputable def upS (S : Fr4) (n : Nat) : Ws := fun i => !((((List.range 4).filter n.testBit).filter fun j => (S j).any (· == i)).isEmpty)
noncomputable def drawnL (n : Nat) : List Nat := (List.range 4).filter n.testBit
theorem up_ok (σ : Sto) (hS : Lt4 s0 s1 s2 s3) {n : Nat} (hn : n < 16) : gUp σ [.p (nD n), .p (.list (lD [s0, s1, s2, s3]))] = some (.p (.list (iL (W (mk4 (upS (fr s0 s1 s2 s3) n)))))) := by
  have hb := bit_ok n hn
  have hd4 : ∀ j ∈ drawnL n, j < 4 := fun j hj => by simpa using (List.mem_filter.mp hj).1
  have hdl : (drawnL n).length ≤ 4 := List.length_filter_le _ _
  refine run_PE (σ' := σ) rfl (b_consX (s_name rfl rfl rfl (Eq.trans (e_compM (v := .rng 0 1 4) (g := nD) (l := List.range 4) (keep := n.testBit) (f := nD) rfl rfl rfl fun j hj => ⟨_, rfl, ifs1 ?_, fun _ => rfl⟩) (show _ = some (V.p (.list ((drawnL n).map nD))) from rfl))) ⟨_, b_ret (s_retP rfl (Eq.trans (e_compM (v := .rng 0 1 4) (g := nD) (l := List.range 4) (keep := upS (fr s0 s1 s2 s3) n) (f := nD) rfl rfl rfl fun i hi => ⟨_, rfl, ifs1 ?_, fun _ => rfl⟩) ?_))⟩)
  · have hj : j < 4 := by simpa using hj
    rcases four hj with rfl | rfl | rfl | rfl <;> exact t_cmp rfl rfl (congrArg some (hb _ (by decide)))
  · have hi : i < 4 := by simpa using hi
    exact t_cmp (e_compM (v := .p (.list ((drawnL n).map nD))) (g := nD) (l := drawnL n) (keep := fun j => (fr s0 s1 s2 s3 j).any (· == i)) (f := nD) rfl rfl (and3 rfl rfl (dec4 hdl)) fun j hj => ⟨_, rfl, ifs1 (by
      rcases four (hd4 j hj) with rfl | rfl | rfl | rfl
      · exact t_cmp rfl (e_sub (fun _ _ _ _ h => nomatch h) rfl rfl rfl) (in_ok _ i s0)
      · exact t_cmp rfl (e_sub (fun _ _ _ _ h => nomatch h) rfl rfl rfl) (in_ok _ i s1)
      · exact t_cmp rfl (e_sub (fun _ _ _ _ h => nomatch h) rfl rfl rfl) (in_ok _ i s2)
      · exact t_cmp rfl (e_sub (fun _ _ _ _ h => nomatch h) rfl rfl rfl) (in_ok _ i s3)), fun _ => rfl⟩) rfl (Eq.trans (ne_nil _ _) (by rw [List.isEmpty_map]; rfl))
  · unfold iL
    rw [W_mk4]; rfl
end
noncomputable def add4 (P : Nat → Ws) (r : Nat) (w : Ws) : Nat → Ws := fun x => if x = r then w else P x
noncomputable def base2 (m0 m1 : Nat) : Nat → Ws := fun r => if r = 0 then m0.testBit else m1.testBit
noncomputable def pv2 (S : Fr4) (R : Rows) (m0 m1 : Nat) : Nat → Ws := add4 (base2 m0 m1) 2 (forcedS S (R.kind 2) (base2 m0 m1 (R.fst 2)) (base2 m0 m1 (R.lst 2)))
noncomputable def pv3 (S : Fr4) (R : Rows) (m0 m1 : Nat) : Nat → Ws := add4 (pv2 S R m0 m1) 3 (forcedS S (R.kind 3) (pv2 S R m0 m1 (R.fst 3)) (pv2 S R m0 m1 (R.lst 3)))
noncomputable def pv4 (S : Fr4) (R : Rows) (m0 m1 : Nat) : Nat → Ws := add4 (pv3 S R m0 m1) 4 (forcedS S (R.kind 4) (pv3 S R m0 m1 (R.fst 4)) (pv3 S R m0 m1 (R.lst 4)))
noncomputable def tvL (P : Nat → Ws) (k : Nat) : List D := (List.range k).map fun r => .list (bL (P r))
theorem tv_get {P : Nat → Ws} {k r : Nat} (h : r < k) : (tvL P k)[r]? = some (.list (bL (P r))) := by
  unfold tvL; rw [List.getElem?_map, List.getElem?_range h]; rfl
theorem tv_add (P : Nat → Ws) (k : Nat) (w : Ws) : tvL P k ++ [.list (bL w)] = tvL (add4 P k w) (k + 1) := by
  unfold tvL
  rw [List.range_succ, List.map_append]
  have e : (List.range k).map (fun r => D.list (bL (P r))) = (List.range k).map fun r => D.list (bL (add4 P k w r)) := List.map_congr_left fun r hr => by
    have : r ≠ k := by have : r < k := by simpa using hr
                       omega
    unfold add4; rw [if_neg this]
  rw [e]
  congr 1
  show _ = [D.list (bL (add4 P k w k))]
  unfold add4; rw [if_pos rfl]
section
variable {C : Ctx} {σ : Sto} {j n : Nat} {L : List D} {d : D}
theorem sub_own (hn : n < 1000) (h : σ[j]? = some L) (h2 : L[n]? = some d) : subV C σ (.own j) (.p (nD n)) = some (.p d) := by
  exact sub_at rfl rfl rfl h hn h2
end
section
variable {R : Rows} {s0 s1 s2 s3 : List Nat} {a b c d : List D} {m0 m1 : Nat}
noncomputable def tB (R : Rows) (s0 s1 s2 s3 : List Nat) (m0 m1 : Nat) : Rho := [("defs", .p (.list (defsD R))), ("held", .p (.list [.list (iL (W m0)), .list (iL (W m1))])), ("sees", .p (.list (lD [s0, s1, s2, s3]))), ("told", .own 4)]
noncomputable def tB3 (R : Rows) (s0 s1 s2 s3 : List Nat) (m0 m1 : Nat) (x y z : V) : Rho := [("defs", .p (.list (defsD R))), ("held", .p (.list [.list (iL (W m0)), .list (iL (W m1))])), ("sees", .p (.list (lD [s0, s1, s2, s3]))), ("told", .own 4), ("kind", x), ("first", y), ("last", z)]
theorem truth_body (hS : Lt4 s0 s1 s2 s3) {P : Nat → Ws} {r : Nat} (hr : r ≤ 6) (hf : R.fst r < r) (hl : R.lst r < r) {ρ : Rho} (hρ : ρ = tB R s0 s1 s2 s3 m0 m1 ∨ ∃ x y z, ρ = tB3 R s0 s1 s2 s3 m0 m1 x y z) : ∀ st1 tg it bd p st3, (fnAt 38).bd = [st1, .For tg it bd [] p, st3] →
    ∃ ρ1, bindT tg (.p (defD R r)) ρ = some ρ1 ∧ body (ex (cA fn5) 24 ["told"] 4 4 7 (fnAt 38).sc) bd ρ1 [a, b, c, d, tvL P r] = some (.next, tB3 R s0 s1 s2 s3 m0 m1 (.p (.str (R.kind r))) (.p (nD (R.fst r))) (.p (nD (R.lst r))), [a, b, c, d, tvL (add4 P r (forcedS (fr s0 s1 s2 s3) (R.kind r) (P (R.fst r)) (P (R.lst r)))) (r + 1)]) := by
  intro st1 tg it bd p st3 hbd
  cases hbd
  have e1 := sub_own (C := cA fn5) (σ := [a, b, c, d, tvL P r]) (j := 4) (by omega : R.fst r < 1000) rfl (tv_get hf)
  have e2 := sub_own (C := cA fn5) (σ := [a, b, c, d, tvL P r]) (j := 4) (by omega : R.lst r < 1000) rfl (tv_get hl)
  have e3 := forced_ok (k := R.kind r) (p := P (R.fst r)) (q := P (R.lst r)) [a, b, c, d, tvL P r] hS
  have hlen : (tvL P r).length < lim := by unfold tvL; rw [List.length_map, List.length_range]; exact pos_lim (by omega)
  have e4 : ([a, b, c, d, tvL P r] : Sto).set 4 (tvL P r ++ [.list (bL (forcedS (fr s0 s1 s2 s3) (R.kind r) (P (R.fst r)) (P (R.lst r))))]) = [a, b, c, d, tvL (add4 P r (forcedS (fr s0 s1 s2 s3) (R.kind r) (P (R.fst r)) (P (R.lst r)))) (r + 1)] := by
    rw [tv_add]; rfl
  rcases hρ with rfl | ⟨x, y, z, rfl⟩
  all_goals
    refine ⟨_, rfl, b_cons (s_appendE (j := 4) (l0 := tvL P r) rfl rfl rfl (evA_e rfl (e_call rfl rfl rfl (evs_c (fun _ _ h => nomatch h) rfl (evs_c (fun _ _ h => nomatch h) (e_sub (fun _ _ _ _ h => nomatch h) rfl rfl e1) (evs_c (fun _ _ h => nomatch h) (e_sub (fun _ _ _ _ h => nomatch h) rfl rfl e2) (evs_c (fun _ _ h => nomatch h) rfl rfl)))) e3)) (Nat.le_refl _) rfl hlen e4) b_nil⟩
theorem truths_ok (O : R.Ok0) (hS : Lt4 s0 s1 s2 s3) : gTruths [a, b, c, d] [.p (.list (defsD R)), .p (.list [.list (iL (W m0)), .list (iL (W m1))]), .p (.list (lD [s0, s1, s2, s3]))] = some (.p (.list (tvL (pv4 (fr s0 s1 s2 s3) R m0 m1) 5))) := by
  have e0 : ∃ st1 tg it bd p st3, (fnAt 38).bd = [st1, .For tg it bd [] p, st3] := ⟨_, _, _, _, _, _, rfl⟩
  obtain ⟨st1, tg, it, bd, p, st3, hbd⟩ := e0
  obtain ⟨r1, b1, e1⟩ := truth_body (a := a) (b := b) (c := c) (d := d) (m0 := m0) (m1 := m1) hS (P := base2 m0 m1) (r := 2) (by decide) (O.fst 2 (by decide) (by decide)) (O.lst 2 (by decide) (by decide)) (.inl rfl) st1 tg it bd p st3 hbd
  obtain ⟨r2, b2, e2⟩ := truth_body (a := a) (b := b) (c := c) (d := d) (m0 := m0) (m1 := m1) hS (P := pv2 (fr s0 s1 s2 s3) R m0 m1) (r := 3) (by decide) (O.fst 3 (by decide) (by decide)) (O.lst 3 (by decide) (by decide)) (.inr ⟨_, _, _, rfl⟩) st1 tg it bd p st3 hbd
  obtain ⟨r3, b3, e3⟩ := truth_body (a := a) (b := b) (c := c) (d := d) (m0 := m0) (m1 := m1) hS (P := pv3 (fr s0 s1 s2 s3) R m0 m1) (r := 4) (by decide) (O.fst 4 (by decide) (by decide)) (O.lst 4 (by decide) (by decide)) (.inr ⟨_, _, _, rfl⟩) st1 tg it bd p st3 hbd
  cases hbd
  refine run_PE (σ' := [a, b, c, d, tvL (pv4 (fr s0 s1 s2 s3) R m0 m1) 5]) rfl (b_consX (σ' := [a, b, c, d, tvL (base2 m0 m1) 2]) (s_fresh (l := tvL (base2 m0 m1) 2) rfl rfl (Eq.trans (e_compM (v := .p (.list [.list (iL (W m0)), .list (iL (W m1))])) (g := fun m => D.list (iL (W m))) (l := [m0, m1]) (keep := fun _ => true) (f := fun m => D.list (bL m.testBit)) rfl rfl rfl fun m hm => ⟨_, rfl, rfl, fun _ => ?_⟩) (by rw [filter_tt]; rfl))) (b_consX (s_for (l := [defD R 2, defD R 3, defD R 4]) rfl rfl rfl (f_next b1 e1 (f_next b2 e2 (f_next b3 e3 f_nil)))) ⟨_, b_ret (s_ret rfl)⟩))
  refine Eq.trans (e_compM (v := .rng 0 1 4) (g := nD) (l := [0, 1, 2, 3]) (keep := fun _ => true) (f := fun i => D.bool (m.testBit i)) rfl rfl rfl fun i hi => ⟨_, rfl, rfl, fun _ => ?_⟩) (by rw [filter_tt]; rfl)
  have hi : i < 4 := by simp at hi; omega
  refine e_cmp rfl rfl (Eq.trans (in_ok _ i (W m)) ?_)
  congr 1
  rw [Bool.eq_iff_iff, List.any_eq_true]
  constructor
  · rintro ⟨x, hx, e⟩
    rw [← eq_of_beq e]
    exact (List.mem_filter.mp hx).2
  · intro h
    exact ⟨i, List.mem_filter.mpr ⟨by simpa using hi, h⟩, by simp⟩
end
-- E32
mutual
theorem D.beq_refl : ∀ a : D, D.beq a a = true
  | .none => rfl
  | .bool b => by cases b <;> rfl
  | .int i => by show (i == i) = true; simp
  | .str s => by show (s == s) = true; simp
  | .bytes s => by show (s == s) = true; simp
  | .tuple l => D.beqs_refl l
  | .list l => D.beqs_refl l
theorem D.beqs_refl : ∀ l : List D, D.beqs l l = true
  | [] => rfl
  | a :: l => by
    show (D.beq a a && D.beqs l l) = true
    rw [D.beq_refl a, D.beqs_refl l]; rfl
end
theorem eqOks_all (n : Nat) : ∀ l : List D, (∀ d ∈ l, D.eqOk d d n = true) → D.eqOks l l n = true
  | [], _ => rfl
  | a :: l, h => by
    exact and_mk (h a List.mem_cons_self) (eqOks_all n l fun d hd => h d (List.mem_cons_of_mem _ hd))
theorem eqOk_bytes (n : Nat) (s : List Nat) : D.eqOk (.bytes s) (.bytes s) n = true := rfl
theorem eqOk_str (n : Nat) (s : List Nat) : D.eqOk (.str s) (.str s) n = true := rfl
theorem eqOk_int (n : Nat) (i j : Int) : D.eqOk (.int i) (.int j) n = true := rfl
theorem eqOk_tuple (n : Nat) (l : List D) (h : D.eqOks l l n = true) : D.eqOk (.tuple l) (.tuple l) (n + 1) = true := by unfold D.eqOk; exact h
theorem eqOk_list (n : Nat) (l : List D) (h : D.eqOks l l n = true) : D.eqOk (.list l) (.list l) (n + 1) = true := by unfold D.eqOk; exact h
theorem eqOk_prD (x : Pr1) : D.eqOk (prD x) (prD x) 9 = true := eqOk_tuple 8 _ (eqOks_all _ _ fun d hd => by
  simp only [List.mem_cons, List.not_mem_nil, or_false] at hd
  rcases hd with rfl | rfl <;> exact eqOk_str _ _)
theorem eqOk_entry (R : Rows) (q : Q) : D.eqOk (R.entry q) (R.entry q) 9 = true := by
  refine eqOk_tuple 8 _ (eqOks_all _ _ fun d hd => ?_)
  simp only [List.mem_cons, List.not_mem_nil, or_false] at hd
  rcases hd with rfl | rfl | rfl
  · refine eqOk_tuple 7 _ (eqOks_all _ _ fun d hd => ?_)
    cases q with
    | nil => cases hd
    | cons x q =>
      obtain ⟨s, _, rfl⟩ := List.mem_map.mp hd
      exact eqOk_bytes _ _
  · refine eqOk_list 7 _ (eqOks_all _ _ fun d hd => ?_)
    obtain ⟨s, _, rfl⟩ := List.mem_map.mp hd
    exact eqOk_str _ _
  · exact eqOk_int _ _ _
theorem trc_eqOk (R : Rows) : ∀ (n : Nat) (q known : Q) (log : List D) (kf : Q), R.trc n q known = some (log, kf) → ∀ d ∈ log, D.eqOk d d 9 = true
  | 0, _, _, _, _, h => by cases h
  | n + 1, [], known, _, _, h => by
    cases h
    intro d hd
    rw [List.mem_singleton] at hd
    subst hd
    exact eqOk_entry R []
  | n + 1, x :: q, known, _, _, h => by
    obtain ⟨⟨l1, k1⟩, h1, h2⟩ := Option.map_eq_some_iff.mp h
    cases h2
    intro d hd
    rcases List.mem_cons.mp hd with rfl | hd
    · exact eqOk_entry R _
    · exact trc_eqOk R n _ _ _ _ h1 d hd
section
variable {C : Ctx} {σ : Sto}
theorem ne_list {l : List D} (h : ∀ d ∈ l, D.eqOk d d 9 = true) : cmpOp C σ .NotEq (.p (.list l)) (.p (.list l)) = some false := by
  exact (show eqOp σ true (.p (.list l)) (.p (.list l)) = _ from Mine.bd rfl (Mine.bd rfl (gd (eqOks_all 9 l h) (by rw [D.beqs_refl]; rfl))))
theorem ne_listO {l : List D} {j : Nat} (hj : σ[j]? = some l) (h : ∀ d ∈ l, D.eqOk d d 9 = true) : cmpOp C σ .NotEq (.own j) (.p (.list l)) = some false := by
  exact (show eqOp σ true (.own j) (.p (.list l)) = _ from Mine.bd hj (Mine.bd rfl (gd (eqOks_all 9 l h) (by rw [D.beqs_refl]; rfl))))
theorem eq_bytes (a : List Nat) : cmpOp C σ .Eq (.p (.bytes a)) (.p (.bytes a)) = some true := by
  show some ((a == a) != false) = _
  rw [beq_self_eq_true]; rfl
theorem eqOks_nD : ∀ a b : List Nat, D.eqOks (a.map nD) (b.map nD) 9 = true
  | [], _ => rfl
  | x :: a, [] => rfl
  | x :: a, y :: b => and_mk (a := D.eqOk (nD x) (nD y) 9) rfl (eqOks_nD a b)
theorem beqs_nD : ∀ a b : List Nat, D.beqs (a.map nD) (b.map nD) = (a == b)
  | [], [] => rfl
  | [], y :: b => rfl
  | x :: a, [] => rfl
  | x :: a, y :: b => by
    show (D.beq (nD x) (nD y) && D.beqs (a.map nD) (b.map nD)) = _
    rw [beqs_nD a b, List.cons_beq_cons]
    congr 1
    show ((x : Int) == (y : Int)) = (x == y)
    by_cases h : x = y
    · subst h; simp
    · rw [beq_eq_false_iff_ne.mpr h, beq_eq_false_iff_ne.mpr (by omega)]
theorem eq_nDs (a b : List Nat) : cmpOp C σ .Eq (.p (.list (a.map nD))) (.p (.list (b.map nD))) = some (a == b) := by
  exact (show eqOp σ false (.p (.list (a.map nD))) (.p (.list (b.map nD))) = _ from bd rfl (bd rfl (gd (eqOks_nD a b) (by rw [beqs_nD]; cases a == b <;> rfl))))
end
section
variable {C : Ctx} {n : Nat} {sc : Sc} {ρ : Rho} {σ : Sto} {p : Pos} {a b c d e : Expr}
theorem t_or5 (h1 : (ev C n).t sc ρ σ a = some false) (h2 : (ev C n).t sc ρ σ b = some false) (h3 : (ev C n).t sc ρ σ c = some false) (h4 : (ev C n).t sc ρ σ d = some false) (h5 : (ev C n).t sc ρ σ e = some false) :
    (ev C (n + 1)).t sc ρ σ (.BoolOp .Or [a, b, c, d, e] p) = some false := by
  exact bd h1 (bd h2 (bd h3 (bd h4 (bd h5 rfl))))
end
theorem sum_cast : ∀ l : List Nat, (l.map fun (n : Nat) => (n : Int)).sum = ((l.sum : Nat) : Int)
  | [] => rfl
  | n :: l => by rw [List.map_cons, List.sum_cons, sum_cast l, List.sum_cons]; omega
theorem sum_list (σ : Sto) (l : List Nat) (h : l.length ≤ lim) : sumV σ [.p (.list (l.map nD))] = some (.p (nD l.sum)) := by
  show ((ints? (l.map nD)).bind fun is => if decide ((l.map nD).length ≤ lim) = true then some (V.p (.int is.sum)) else none) = _
  rw [show ints? (l.map nD) = some (l.map fun (n : Nat) => (n : Int)) from ints_map (fun n : Nat => (n : Int)) l, Option.bind_some, if_pos (decide_eq_true (by rw [List.length_map]; exact h)), sum_cast]; rfl
theorem joinL_flat : ∀ l : List (List Nat), joinL [] l = l.flatten
  | [] => rfl
  | [a] => by simp [joinL]
  | a :: b :: l => by
    show a ++ [] ++ joinL [] (b :: l) = _
    rw [joinL_flat (b :: l), List.append_nil]; rfl
theorem pick_mapD {α β : Type} (g : α → β) (l : List α) (lo hi st : Option Int) : pick (l.map g) lo hi st = (pick l lo hi st).map g := by
  unfold pick
  rw [List.length_map]
  show List.filterMap (fun k => (l.map g)[k]?) (sliceRange (sliceBounds lo hi st l.length).1 (sliceBounds lo hi st l.length).2.1 (sliceBounds lo hi st l.length).2.2) = (List.filterMap (fun k => l[k]?) (sliceRange (sliceBounds lo hi st l.length).1 (sliceBounds lo hi st l.length).2.1 (sliceBounds lo hi st l.length).2.2)).map g
  rw [List.map_filterMap]
  congr 1
  funext k
  simp
theorem pick_step {α : Type} (l : List α) (k : Nat) : (pick l (some (k : Int)) none (some 4)).length ≤ l.length := by
  unfold pick
  refine Nat.le_trans (List.length_filterMap_le _ _) ?_
  refine sliceRange_length_le _ _ _ l.length (fun _ => ?_) fun h => absurd (by decide : (4 : Int) > 0) h
  simp only [sliceBounds, Option.getD_some, show (4 : Int) > 0 from by decide, if_true, show ¬ ((k : Int) < 0) from by omega, if_false]
  constructor
  · omega
  · omega
theorem sum_ints (σ : Sto) (l : List Int) (h : l.length ≤ lim) : sumV σ [.p (.list (l.map .int))] = some (.p (.int l.sum)) := by
  show ((ints? (l.map .int)).bind fun is => if decide ((l.map D.int).length ≤ lim) = true then some (V.p (.int is.sum)) else none) = _
  have := ints_map (fun i : Int => i) l
  rw [List.map_id'] at this
  rw [show ints? (l.map .int) = some l from this, Option.bind_some, if_pos (decide_eq_true (by rw [List.length_map]; exact h))]
theorem cell_ok (σ : Sto) {l : List Int} (hl : l.length ≤ 63) (k : Nat) (hk : k < 4) : ∃ x : List Int, sliced σ (.p (.list (l.map .int))) (some (k : Int)) none (some 4) = some (.p (.list (x.map D.int))) ∧ sumV σ [.p (.list (x.map .int))] = some (.p (.int x.sum)) := by
  have h1 := pick_step l k
  refine ⟨pick l (some (k : Int)) none (some 4), ?_, sum_ints σ _ (pos_lim' (by omega))⟩
  rw [sliced_list (by rw [List.length_map]; exact pos_lim' (by omega)) rfl, pick_mapD]
end
section
open PySem
set_option autoImplicit false
set_option linter.unusedSimpArgs false
set_option linter.unusedVariables false
set_option maxHeartbeats 4000000
set_option maxRecDepth 100000
-- E33
structure LP where
  L : List Int
  cells : V
  t0 : Nat
  t1 : Nat
  t2 : Nat
  t3 : Nat
  t4 : Nat
  t5 : Nat
  n6 : Nat
  n7 : Nat
  n8 : Nat
  R : Rows
  Z : Dress
  s0 : List Nat
  s1 : List Nat
  s2 : List Nat
  s3 : List Nat
  line : List Nat
  left : List Nat
  f : V
  log : List D
  kf : Q
namespace LP
variable (X : LP)
noncomputable def S : Fr4 := fr X.s0 X.s1 X.s2 X.s3
noncomputable def sD : List D := lD [X.s0, X.s1, X.s2, X.s3]
noncomputable def m0 : Nat := mk4 (upS X.S X.n6)
noncomputable def m1 : Nat := mk4 (upS X.S X.n7)
noncomputable def q0 : Q := X.line.map fun r => (r, X.Z.gr r)
noncomputable def P : Nat → Ws := pv4 X.S X.R X.m0 X.m1
noncomputable def pl : Ws := pv4 (fr [0] [1] [2] [3]) X.R X.m0 X.m1 4
noncomputable def endsL : List Nat := (List.range 4).filter fun j => X.S j == [j]
noncomputable def w5 : Ws := fun i => (X.endsL.filter fun j => (X.S i).any (· == j) && X.pl j).isEmpty
noncomputable def w6 : Ws := fun i => (X.endsL.filter fun j => (X.S i).any (· == j) && !X.pl j).isEmpty
noncomputable def sent : List Nat := sendS (X.R.qL X.q0)
noncomputable def lineD : List D := X.line.map nD
noncomputable def rowsD : List D := (X.R.qL X.q0).map prD
noncomputable def bk0 : List D := (X.R.bkL []).map prD
noncomputable def bkF : List D := (X.R.bkL X.kf).map prD
noncomputable def bkE : List D := (delS 112 (X.R.bkL X.kf)).map prD
noncomputable def due1 : List D := [prD (112, word X.m0), prD (113, word X.m1), prD (80, word X.n8)]
noncomputable def heldD : List D := [.list (iL (W X.m0)), .list (iL (W X.m1))]
noncomputable def drawnD : List D := [nD X.t0, nD X.t1, nD X.t2, nD X.t3, nD X.t4, nD X.t5, nD X.n6, nD X.n7, nD X.n8]
noncomputable def worldsD : List D := (List.range 7).map fun r => .list (iL (W (X.R.M r)))
noncomputable def env (due : V) : Rho := [("script", .p (.list (X.L.map .int))), ("cells", X.cells), ("drawn", .p (.list X.drawnD)), ("defs", .p (.list (defsD X.R))), ("dress", .p (.list (dressD X.R X.Z))), ("left", .p (.list (X.left.map nD))), ("line", .own 0), ("figure", X.f),
  ("sees", .p (.list X.sD)), ("held", .p (.list X.heldD)), ("strange", .p (.list (iL (W X.n8)))), ("rows", .own 1), ("lines", .p (.str X.sent)), ("queue", .hdr 1), ("sent", .p (.bool true)), ("cones", .p (.list X.R.cones)), ("quiet", .own 2), ("marks", .own 3), ("book", .hdr 3),
  ("log", .p (.list X.log)), ("whole", .p (.list X.bkF)), ("plain", .p (.list (bL X.pl))), ("ends", .p (.list (X.endsL.map nD))), ("worlds", .own 4), ("due_log", .p (.list X.log)), ("known", .p (.list (X.kf.map pairD))), ("due", due)]
noncomputable def E (k : Nat) : Rho := (X.env (.p .none)).take k
end LP
structure LP.Ok (X : LP) : Prop where
  O : X.R.Ok
  O0 : X.R.Ok0
  Y : X.Z.Ok
  hS : Lt4 X.s0 X.s1 X.s2 X.s3
  F : X.S.Ok
  sees : seesS X.t0 X.t1 X.t2 X.t3 X.t4 X.t5 = [X.s0, X.s1, X.s2, X.s3]
  h0 : X.t0 < 2
  h1 : X.t1 < 2
  h2 : X.t2 < 2
  h3 : X.t3 < 2
  h4 : X.t4 < 2
  h5 : X.t5 < 2
  h6 : X.n6 < 16
  h7 : X.n7 < 16
  h8 : X.n8 < 16
  ms : X.R.ms = X.n8
  M0 : X.R.M 0 = X.m0
  M1 : X.R.M 1 = X.m1
  M : ∀ r < 5, X.R.M r = mk4 (X.P r)
  M5 : X.R.M 5 = mk4 X.w5
  M6 : X.R.M 6 = mk4 X.w6
  c0 : X.R.c0 = cone X.S 0
  c1 : X.R.c1 = cone X.S 1
  c2 : X.R.c2 = cone X.S 2
  c3 : X.R.c3 = cone X.S 3
  K : QOk X.q0 []
  row : ∀ r ∈ X.line, 2 ≤ r ∧ r ≤ 7
  len : X.line.length ≤ 6
  T : ∀ r, 2 ≤ r → r ≤ 6 → X.R.T r = textS (X.Z.way r) (X.Z.gap r) (X.R.tl r)
  T7 : X.R.T 7 = text7 (X.Z.way 7)
  trc : X.R.trc 18 X.q0 [] = some (X.log, X.kf)
noncomputable abbrev stL (i : Nat) : Stmt := (fnAt 39).bd.getD i (.Pass ⟨0, 0, 0, 0⟩)
noncomputable abbrev exL := ex ctx6 24 lawMu 0 0 8 (fnAt 39).sc
section
variable {X : LP}
theorem st8 (H : X.Ok) : exL (X.E 8) [X.lineD] (stL 8) = some (.next, (X.E 9), [X.lineD]) := by
  exact s_name rfl rfl rfl (e_call (vs := [.p (.list [nD X.t0, nD X.t1, nD X.t2, nD X.t3, nD X.t4, nD X.t5])]) rfl rfl rfl (evs_c (fun _ _ h => nomatch h) (e_slice (u := .p (.list X.drawnD)) (x := none) (y := some 6) (z := none) rfl rfl rfl rfl rfl rfl rfl rfl) rfl) (Eq.trans (sees_ok _ _ H.h0 _ H.h1 _ H.h2 _ H.h3 _ H.h4 _ H.h5) (by rw [H.sees]; rfl)))
theorem st9 (H : X.Ok) : exL (X.E 9) [X.lineD] (stL 9) = some (.next, (X.E 10), [X.lineD]) := by
  exact s_name rfl rfl rfl (e_list rfl (evs_c (fun _ _ h => nomatch h) (e_call (vs := [.p (nD X.n6), .p (.list X.sD)]) rfl rfl rfl (evs_c (fun _ _ h => nomatch h) rfl (evs_c (fun _ _ h => nomatch h) rfl rfl)) (up_ok _ H.hS H.h6)) (evs_c (fun _ _ h => nomatch h) (e_call (vs := [.p (nD X.n7), .p (.list X.sD)]) rfl rfl rfl (evs_c (fun _ _ h => nomatch h) rfl (evs_c (fun _ _ h => nomatch h) rfl rfl)) (up_ok _ H.hS H.h7)) rfl)) rfl)
theorem st10 (H : X.Ok) : exL (X.E 10) [X.lineD] (stL 10) = some (.next, (X.E 11), [X.lineD]) := by
  have hb := bit_ok X.n8 H.h8
  exact s_name rfl rfl rfl (Eq.trans (e_compM (v := .rng 0 1 4) (g := nD) (l := List.range 4) (keep := X.n8.testBit) (f := nD) rfl rfl rfl fun j hj => ⟨_, rfl, ifs1 (by
    have hj : j < 4 := by simpa using hj
    rcases four hj with rfl | rfl | rfl | rfl <;> exact t_cmp rfl rfl (congrArg some (hb _ (by decide)))), fun _ => rfl⟩) rfl)
theorem LP.Ok.ll (H : X.Ok) : decide (X.lineD.length ≤ lim) = true := decide_eq_true (by unfold LP.lineD; rw [List.length_map]; have := H.len; exact pos_lim' (by omega))
theorem LP.Ok.rl (H : X.Ok) : decide (((X.R.qL X.q0).map prD).length ≤ lim) = true := decide_eq_true (by unfold LP.q0 Rows.qL; rw [List.length_map, List.length_map, List.length_map]; have := H.len; exact pos_lim' (by omega))
theorem st11 (H : X.Ok) : exL (X.E 11) [X.lineD] (stL 11) = some (.next, (X.E 12), [X.lineD, X.rowsD]) := by
  have hd : ∀ r ∈ X.line, gDressed [X.lineD] [.p (nD r), .p (.list (defsD X.R)), .p (.list (dressD X.R X.Z))] = some (.p (prD (nm r (X.Z.gr r), X.R.T r))) := fun r hr => by
    obtain ⟨a, b⟩ := H.row r hr
    by_cases h6 : r ≤ 6
    · rw [dressed_ok H.O H.Y _ r a h6, H.T r a h6]
    · have : r = 7 := by omega
      subst this
      rw [dressed7 H.Y, H.T7]
  exact s_fresh rfl rfl (Eq.trans (e_compM (v := .own 0) (g := nD) (l := X.line) (keep := fun _ => true) (f := fun r => prD (nm r (X.Z.gr r), X.R.T r)) rfl rfl (and3 rfl rfl H.ll) fun r hr => ⟨_, rfl, rfl, fun _ => e_call (vs := [.p (nD r), .p (.list (defsD X.R)), .p (.list (dressD X.R X.Z))]) rfl rfl rfl (evs_c (fun _ _ h => nomatch h) rfl (evs_c (fun _ _ h => nomatch h) rfl (evs_c (fun _ _ h => nomatch h) rfl rfl))) (hd r hr)⟩) (by rw [filter_tt]; unfold LP.rowsD LP.q0 Rows.qL; rw [List.map_map, List.map_map]; rfl))
theorem LP.Ok.hq (H : X.Ok) {σ : Sto} (h : σ[1]? = some X.rowsD) : HdrAt σ 1 (X.R.qL X.q0) := q_hdr H.O H.K h
theorem LP.Ok.slen (H : X.Ok) : X.sent.length ≤ 10000 := by
  have h1 := sendS_len (l := X.R.qL X.q0) fun x hx => by
    obtain ⟨y, hy, rfl⟩ := List.mem_map.mp hx
    exact (H.O.text y.1 (H.K.row y hy).1 (H.K.row y hy).2.1).2.1
  have h2 := H.K.len
  simp only [Rows.qL, List.length_map] at h1
  unfold LP.sent Rows.qL; omega
theorem st12 (H : X.Ok) : exL (X.E 12) [X.lineD, X.rowsD] (stL 12) = some (.next, (X.E 13), [X.lineD, X.rowsD]) := by
  have ht : ∀ x ∈ X.R.qL X.q0, x.2.length ≤ 1000 := fun x hx => ((H.hq (σ := [X.lineD, X.rowsD]) rfl).ok x hx).2.2.1
  have ha1 : ∀ x ∈ X.R.qL X.q0, ∀ {σ : Sto}, binop σ .Add (.p (.str ([x.1] ++ [58, 32]))) (.p (.str x.2)) = some (.p (.str ([x.1] ++ [58, 32] ++ x.2))) := fun x hx {σ} => add_str (by have := ht x hx; simp only [List.length_append, List.length_cons, List.length_nil, lim]; omega)
  have ha2 : ∀ x ∈ X.R.qL X.q0, ∀ {σ : Sto}, binop σ .Add (.p (.str ([x.1] ++ [58, 32] ++ x.2))) (.p (.str [13, 10])) = some (.p (.str (lineS x ++ [13, 10]))) := fun x hx {σ} => add_str (by have := ht x hx; simp only [List.length_append, List.length_cons, List.length_nil, lim]; omega)
  have hsl := H.slen
  unfold LP.sent sendS at hsl
  have ha3 : ∀ {σ : Sto}, binop σ .Add (.p (.str ((X.R.qL X.q0).map fun x => lineS x ++ [13, 10]).flatten)) (.p (.str [13, 10])) = some (.p (.str X.sent)) := fun {σ} => add_str (by simp only [List.length_append] at hsl; simp only [lim]; omega)
  have hj : methV ctx6 [X.lineD, X.rowsD] "join" (.p (.str [])) ([.p (.list ((X.R.qL X.q0).map fun x => D.str (lineS x ++ [13, 10])))] ++ []) = some (.p (.str ((X.R.qL X.q0).map fun x => lineS x ++ [13, 10]).flatten)) := by
    rw [List.append_nil, join_meth ctx6 _ (strs_map (fun x : Pr1 => lineS x ++ [13, 10]) (X.R.qL X.q0)), joinL_flat]
    rw [List.length_append, List.length_flatten] at hsl
    simp only [List.length_nil, Nat.mul_zero, lim]
    omega
  exact s_name rfl rfl rfl (e_bin (u := .p (.str ((X.R.qL X.q0).map fun x => lineS x ++ [13, 10]).flatten)) (w := .p (.str [13, 10])) (e_meth (u := .p (.str [])) (vs := [.p (.list ((X.R.qL X.q0).map fun x => D.str (lineS x ++ [13, 10])))]) rfl rfl (evs_c (fun _ _ h => nomatch h) (Eq.trans (e_compM (v := .own 1) (g := prD) (l := X.R.qL X.q0) (keep := fun _ => true) (f := fun x => D.str (lineS x ++ [13, 10])) rfl rfl (and3 rfl rfl H.rl) fun x hx => ⟨_, rfl, rfl, fun _ => e_bin (u := .p (.str ([x.1] ++ [58, 32] ++ x.2))) (w := .p (.str [13, 10])) (e_bin (u := .p (.str ([x.1] ++ [58, 32]))) (w := .p (.str x.2)) (e_bin (u := .p (.str [x.1])) (w := .p (.str [58, 32])) rfl rfl rfl) rfl (ha1 x hx)) rfl (ha2 x hx)⟩) (by rw [filter_tt])) rfl) rfl hj) rfl ha3)
theorem st13 (H : X.Ok) : exL (X.E 13) [X.lineD, X.rowsD] (stL 13) = some (.next, (X.E 14), [X.lineD, X.rowsD]) := by
  exact s_name rfl rfl rfl (e_call (vs := [.own 1]) rfl rfl rfl (evs_c (fun _ _ h => nomatch h) rfl rfl) (headers_ok (H.hq rfl)))
theorem st14 (H : X.Ok) : exL (X.E 14) [X.lineD, X.rowsD] (stL 14) = some (.next, (X.E 15), [X.lineD, X.rowsD]) := by
  have HQ := H.hq (σ := [X.lineD, X.rowsD]) rfl
  have h1 := H.slen
  have hsl : decide ((X.sent.map fun c => D.str [c]).length ≤ lim) = true := decide_eq_true (by rw [List.length_map]; simp only [lim]; omega)
  have hby := bytes_list (look meths) [X.lineD, X.rowsD] (s := X.sent) (send_latin HQ) (by simp only [lim]; omega)
  exact s_name rfl rfl rfl (e_cmp (u := .p (.bytes X.sent)) (w := .p (.bytes X.sent)) (e_call (vs := [.hdr 1]) rfl rfl rfl (evs_c (fun _ _ h => nomatch h) rfl rfl) (bytes_hdr HQ)) (e_call (vs := [.p (.list (X.sent.map fun (c : Nat) => D.int c))]) rfl rfl rfl (evs_c (fun _ _ h => nomatch h) (Eq.trans (e_compM (v := .p (.str X.sent)) (g := fun c => D.str [c]) (l := X.sent) (keep := fun _ => true) (f := fun (c : Nat) => D.int c) rfl rfl (and3 rfl rfl hsl) fun c hc => ⟨_, rfl, rfl, fun _ => e_call rfl rfl rfl (evs_c (fun _ _ h => nomatch h) rfl rfl) rfl⟩) (by rw [filter_tt])) rfl) hby) (eq_bytes _))
theorem st15 (H : X.Ok) : exL (X.E 15) [X.lineD, X.rowsD] (stL 15) = some (.next, (X.E 16), [X.lineD, X.rowsD]) := by
  exact s_name rfl rfl rfl (Eq.trans (e_compM (v := .rng 0 1 4) (g := nD) (l := [0, 1, 2, 3]) (keep := fun _ => true) (f := fun i => nD (code (cone X.S i))) rfl rfl rfl fun i hi => ⟨_, rfl, rfl, fun _ => by
    have hi : i < 4 := by simp at hi; omega
    rcases four hi with rfl | rfl | rfl | rfl
    · exact e_call (vs := [.p (.list ((X.s0.map fun j => 8 ^ j).map nD))]) rfl rfl rfl (evs_c (fun _ _ h => nomatch h) (Eq.trans (e_compM (v := .p (.list (X.s0.map nD))) (g := nD) (l := X.s0) (keep := fun _ => true) (f := fun j => nD (8 ^ j)) rfl rfl (and3 rfl rfl (dec4 H.hS.h0.2)) fun j hj => ⟨_, rfl, rfl, fun _ => by
          rcases four (H.hS.h0.1 j hj) with rfl | rfl | rfl | rfl <;> rfl⟩) (by rw [filter_tt, List.map_map]; rfl)) rfl) (Eq.trans (sum_list _ _ (by rw [List.length_map]; have := H.hS.h0.2; exact pos_lim' (by omega))) (congrArg (fun n => some (V.p (nD n))) (H.F.sum 0 (by decide))))
    · exact e_call (vs := [.p (.list ((X.s1.map fun j => 8 ^ j).map nD))]) rfl rfl rfl (evs_c (fun _ _ h => nomatch h) (Eq.trans (e_compM (v := .p (.list (X.s1.map nD))) (g := nD) (l := X.s1) (keep := fun _ => true) (f := fun j => nD (8 ^ j)) rfl rfl (and3 rfl rfl (dec4 H.hS.h1.2)) fun j hj => ⟨_, rfl, rfl, fun _ => by
          rcases four (H.hS.h1.1 j hj) with rfl | rfl | rfl | rfl <;> rfl⟩) (by rw [filter_tt, List.map_map]; rfl)) rfl) (Eq.trans (sum_list _ _ (by rw [List.length_map]; have := H.hS.h1.2; exact pos_lim' (by omega))) (congrArg (fun n => some (V.p (nD n))) (H.F.sum 1 (by decide))))
    · exact e_call (vs := [.p (.list ((X.s2.map fun j => 8 ^ j).map nD))]) rfl rfl rfl (evs_c (fun _ _ h => nomatch h) (Eq.trans (e_compM (v := .p (.list (X.s2.map nD))) (g := nD) (l := X.s2) (keep := fun _ => true) (f := fun j => nD (8 ^ j)) rfl rfl (and3 rfl rfl (dec4 H.hS.h2.2)) fun j hj => ⟨_, rfl, rfl, fun _ => by
          rcases four (H.hS.h2.1 j hj) with rfl | rfl | rfl | rfl <;> rfl⟩) (by rw [filter_tt, List.map_map]; rfl)) rfl) (Eq.trans (sum_list _ _ (by rw [List.length_map]; have := H.hS.h2.2; exact pos_lim' (by omega))) (congrArg (fun n => some (V.p (nD n))) (H.F.sum 2 (by decide))))
    · exact e_call (vs := [.p (.list ((X.s3.map fun j => 8 ^ j).map nD))]) rfl rfl rfl (evs_c (fun _ _ h => nomatch h) (Eq.trans (e_compM (v := .p (.list (X.s3.map nD))) (g := nD) (l := X.s3) (keep := fun _ => true) (f := fun j => nD (8 ^ j)) rfl rfl (and3 rfl rfl (dec4 H.hS.h3.2)) fun j hj => ⟨_, rfl, rfl, fun _ => by
          rcases four (H.hS.h3.1 j hj) with rfl | rfl | rfl | rfl <;> rfl⟩) (by rw [filter_tt, List.map_map]; rfl)) rfl) (Eq.trans (sum_list _ _ (by rw [List.length_map]; have := H.hS.h3.2; exact pos_lim' (by omega))) (congrArg (fun n => some (V.p (nD n))) (H.F.sum 3 (by decide))))
⟩) (by rw [filter_tt]; unfold Rows.cones; rw [H.c0, H.c1, H.c2, H.c3]; rfl))
theorem st16 (H : X.Ok) : exL (X.E 16) [X.lineD, X.rowsD] (stL 16) = some (.next, (X.E 17), [X.lineD, X.rowsD, []]) := by
  exact s_fresh rfl rfl rfl
theorem LP.Ok.m0lt (H : X.Ok) : X.m0 < 16 := mk4_lt _
theorem LP.Ok.m1lt (H : X.Ok) : X.m1 < 16 := mk4_lt _
theorem LP.Ok.bk0 (H : X.Ok) : X.bk0 = [prD (112, word X.m0), prD (113, word X.m1), prD (80, word X.n8)] := by
  unfold LP.bk0 Rows.bkL
  rw [H.M0, H.M1, H.ms]; rfl
theorem st17 (H : X.Ok) : exL (X.E 17) [X.lineD, X.rowsD, []] (stL 17) = some (.next, (X.E 18), [X.lineD, X.rowsD, [], X.bk0]) := by
  exact s_fresh rfl rfl (Eq.trans (e_list rfl (evs_c (fun _ _ h => nomatch h) (e_tuple rfl (evs_c (fun _ _ h => nomatch h) rfl (evs_c (fun _ _ h => nomatch h) (e_call (vs := [.p (.list (iL (W X.m0)))]) rfl rfl rfl (evs_c (fun _ _ h => nomatch h) rfl rfl) (f_told _ _ H.m0lt)) rfl)) rfl) (evs_c (fun _ _ h => nomatch h) (e_tuple rfl (evs_c (fun _ _ h => nomatch h) rfl (evs_c (fun _ _ h => nomatch h) (e_call (vs := [.p (.list (iL (W X.m1)))]) rfl rfl rfl (evs_c (fun _ _ h => nomatch h) rfl rfl) (f_told _ _ H.m1lt)) rfl)) rfl) (evs_c (fun _ _ h => nomatch h) (e_tuple rfl (evs_c (fun _ _ h => nomatch h) rfl (evs_c (fun _ _ h => nomatch h) (e_call (vs := [.p (.list (iL (W X.n8)))]) rfl rfl rfl (evs_c (fun _ _ h => nomatch h) rfl rfl) (f_told _ _ H.h8)) rfl)) rfl) rfl))) rfl) (by rw [H.bk0]; rfl))
theorem st18 (H : X.Ok) : exL (X.E 18) [X.lineD, X.rowsD, [], X.bk0] (stL 18) = some (.next, (X.E 19), [X.lineD, X.rowsD, [], X.bk0]) := by
  exact s_name rfl rfl rfl (e_call (vs := [.own 3]) rfl rfl rfl (evs_c (fun _ _ h => nomatch h) rfl rfl) (headers_ok (bk_hdr H.O H.K rfl)))
theorem st19k (H : X.Ok) : ∃ k, k ≤ 54 ∧ exL (X.E 19) [X.lineD, X.rowsD, [], X.bk0] (stL 19) = some (.next, X.E 20, [X.lineD, [], List.replicate k .none, X.bkF]) := by
  obtain ⟨k, hk, e⟩ := machine_ok (L := X.lineD) H.O H.K H.trc
  exact ⟨k, hk, s_act rfl rfl (evA_eff rfl rfl rfl (evs_c (fun _ _ h => nomatch h) rfl (evs_c (fun _ _ h => nomatch h) rfl (evs_c (fun _ _ h => nomatch h) rfl (evs_c (fun _ _ h => nomatch h) rfl rfl)))) e)⟩
theorem LP.Ok.Kf (H : X.Ok) : QOk [] X.kf := trc_known H.O 18 H.K H.trc
theorem LP.Ok.hb (H : X.Ok) {σ : Sto} (h : σ[3]? = some X.bkF) : HdrAt σ 3 (X.R.bkL X.kf) := bk_hdr H.O H.Kf h
theorem st20 (H : X.Ok) {k : Nat} : exL (X.E 20) [X.lineD, [], List.replicate k .none, X.bkF] (stL 20) = some (.next, (X.E 21), [X.lineD, [], List.replicate k .none, X.bkF]) := by
  have hi : methV ctx6 [X.lineD, [], List.replicate k .none, X.bkF] "items" (.hdr 3) [] = some (.p (.list X.bkF)) := by
    rw [meth_hdr, show ctx6.meth "items" = some mItems from by kernel_rfl]
    exact items_spec (H.hb rfl)
  exact s_name rfl rfl rfl (e_meth rfl rfl rfl rfl hi)
theorem st21 (H : X.Ok) {k : Nat} (hk : k ≤ 60) : exL (X.E 21) [X.lineD, [], List.replicate k .none, X.bkF] (stL 21) = some (.next, (X.E 21), [X.lineD, [], List.replicate (k + 1) .none, X.bkE]) := by
  have hd : aDelitem [X.lineD, [], List.replicate k .none, X.bkF] [.hdr 3, .p (.str [80])] = some (.p .none, [X.lineD, [], List.replicate k .none, X.bkE]) := by
    rw [a_delitem (H.hb (σ := [X.lineD, [], List.replicate k .none, X.bkF]) rfl) (by decide)]; rfl
  exact s_appendE (j := 2) (l0 := List.replicate k .none) (σ' := [X.lineD, [], List.replicate k .none, X.bkE]) rfl rfl rfl (evA_eff rfl rfl rfl (evs_c (fun _ _ h => nomatch h) rfl (evs_c (fun _ _ h => nomatch h) rfl rfl)) hd) (Nat.zero_le _) rfl (by rw [List.length_replicate]; exact pos_lim (by omega)) (by rw [rep_snoc]; rfl)
theorem st22 (H : X.Ok) {qu : List D} : exL (X.E 21) [X.lineD, [], qu, X.bkE] (stL 22) = some (.next, (X.E 22), [X.lineD, [], qu, X.bkE]) := by
  have h4 : Lt4 [0] [1] [2] [3] := ⟨by decide, by decide, by decide, by decide⟩
  exact s_name rfl rfl rfl (e_sub (fun _ _ _ _ h => nomatch h) (e_call (vs := [.p (.list (defsD X.R)), .p (.list X.heldD), .p (.list (lD [[0], [1], [2], [3]]))]) rfl rfl rfl (evs_c (fun _ _ h => nomatch h) rfl (evs_c (fun _ _ h => nomatch h) rfl (evs_c (fun _ _ h => nomatch h) rfl rfl))) (truths_ok H.O0 h4)) rfl (sub_list (n := 4) (by decide) (tv_get (by decide))))
theorem st23 (H : X.Ok) {qu : List D} : exL (X.E 22) [X.lineD, [], qu, X.bkE] (stL 23) = some (.next, (X.E 23), [X.lineD, [], qu, X.bkE]) := by
  exact s_name rfl rfl rfl (Eq.trans (e_compM (v := .rng 0 1 4) (g := nD) (l := List.range 4) (keep := fun j => X.S j == [j]) (f := nD) rfl rfl rfl fun j hj => ⟨_, rfl, ifs1 (by
    have hj : j < 4 := by simpa using hj
    rcases four hj with rfl | rfl | rfl | rfl
    · exact t_cmp (u := .p (.list (X.s0.map nD))) (w := .p (.list ([0].map nD))) rfl rfl (eq_nDs X.s0 [0])
    · exact t_cmp (u := .p (.list (X.s1.map nD))) (w := .p (.list ([1].map nD))) rfl rfl (eq_nDs X.s1 [1])
    · exact t_cmp (u := .p (.list (X.s2.map nD))) (w := .p (.list ([2].map nD))) rfl rfl (eq_nDs X.s2 [2])
    · exact t_cmp (u := .p (.list (X.s3.map nD))) (w := .p (.list ([3].map nD))) rfl rfl (eq_nDs X.s3 [3])), fun _ => rfl⟩) rfl)
noncomputable def wsD (X : LP) : List D := (List.range 5).map fun r => .list (iL (W (mk4 (X.P r))))
theorem iL_W (p : Ws) : iL (W (mk4 p)) = ((List.range 4).filter p).map nD := by rw [W_mk4]; rfl
theorem st24 (H : X.Ok) {qu : List D} : exL (X.E 23) [X.lineD, [], qu, X.bkE] (stL 24) = some (.next, (X.E 24), [X.lineD, [], qu, X.bkE, wsD X]) := by
  exact s_fresh rfl rfl (Eq.trans (e_compM (v := .p (.list (tvL X.P 5))) (g := fun r => D.list (bL (X.P r))) (l := List.range 5) (keep := fun _ => true) (f := fun r => D.list (iL (W (mk4 (X.P r))))) (e_call (vs := [.p (.list (defsD X.R)), .p (.list X.heldD), .p (.list X.sD)]) rfl rfl rfl (evs_c (fun _ _ h => nomatch h) rfl (evs_c (fun _ _ h => nomatch h) rfl (evs_c (fun _ _ h => nomatch h) rfl rfl))) (truths_ok H.O0 H.hS)) rfl (and3 rfl rfl rfl) fun r hr => ⟨_, rfl, rfl, fun _ => Eq.trans (e_compM (v := .rng 0 1 4) (g := nD) (l := List.range 4) (keep := X.P r) (f := nD) rfl rfl rfl fun i hi => ⟨_, rfl, ifs1 (by
      have hi : i < 4 := by simpa using hi
      rcases four hi with rfl | rfl | rfl | rfl <;> exact t_sub rfl rfl), fun _ => rfl⟩) (by rw [iL_W])⟩) (by rw [filter_tt]; rfl))
theorem st25 (H : X.Ok) {qu : List D} : exL (X.E 24) [X.lineD, [], qu, X.bkE, wsD X] (stL 25) = some (.next, (X.E 24), [X.lineD, [], qu, X.bkE, wsD X ++ [.list (iL (W (mk4 X.w5)))]]) := by
  have hend : ∀ j ∈ X.endsL, j < 4 := fun j hj => by simpa using (List.mem_filter.mp hj).1
  have hel : X.endsL.length ≤ 4 := List.length_filter_le _ _
  exact s_appendE (j := 4) (l0 := wsD X) rfl rfl rfl (evA_e rfl (Eq.trans (e_compM (v := .rng 0 1 4) (g := nD) (l := List.range 4) (keep := X.w5) (f := nD) rfl rfl rfl fun i hi => ⟨_, rfl, ifs1 (by
      have hi : i < 4 := by simpa using hi
      exact t_cmp (e_compM (v := .p (.list (X.endsL.map nD))) (g := nD) (l := X.endsL) (keep := fun j => (X.S i).any (· == j) && X.pl j) (f := nD) rfl rfl (and3 rfl rfl (dec4 hel)) fun j hj => ⟨_, rfl, ifs1 (by
          rcases four hi with rfl | rfl | rfl | rfl
          · rcases four (hend j hj) with rfl | rfl | rfl | rfl <;> exact t_andB (t_cmp rfl (e_sub (fun _ _ _ _ h => nomatch h) rfl rfl rfl) (in_ok _ _ X.s0)) (t_sub rfl rfl)
          · rcases four (hend j hj) with rfl | rfl | rfl | rfl <;> exact t_andB (t_cmp rfl (e_sub (fun _ _ _ _ h => nomatch h) rfl rfl rfl) (in_ok _ _ X.s1)) (t_sub rfl rfl)
          · rcases four (hend j hj) with rfl | rfl | rfl | rfl <;> exact t_andB (t_cmp rfl (e_sub (fun _ _ _ _ h => nomatch h) rfl rfl rfl) (in_ok _ _ X.s2)) (t_sub rfl rfl)
          · rcases four (hend j hj) with rfl | rfl | rfl | rfl <;> exact t_andB (t_cmp rfl (e_sub (fun _ _ _ _ h => nomatch h) rfl rfl rfl) (in_ok _ _ X.s3)) (t_sub rfl rfl)), fun _ => rfl⟩) rfl (Eq.trans (eq_nil _ _) (by rw [List.isEmpty_map]; rfl))), fun _ => rfl⟩) (by rw [← iL_W]))) (Nat.zero_le _) rfl (pos_lim (by simp [wsD])) rfl
theorem st26 (H : X.Ok) {qu : List D} : exL (X.E 24) [X.lineD, [], qu, X.bkE, wsD X ++ [.list (iL (W (mk4 X.w5)))]] (stL 26) = some (.next, (X.E 24), [X.lineD, [], qu, X.bkE, wsD X ++ [.list (iL (W (mk4 X.w5)))] ++ [.list (iL (W (mk4 X.w6)))]]) := by
  have hend : ∀ j ∈ X.endsL, j < 4 := fun j hj => by simpa using (List.mem_filter.mp hj).1
  have hel : X.endsL.length ≤ 4 := List.length_filter_le _ _
  exact s_appendE (j := 4) (l0 := wsD X ++ [.list (iL (W (mk4 X.w5)))]) rfl rfl rfl (evA_e rfl (Eq.trans (e_compM (v := .rng 0 1 4) (g := nD) (l := List.range 4) (keep := X.w6) (f := nD) rfl rfl rfl fun i hi => ⟨_, rfl, ifs1 (by
      have hi : i < 4 := by simpa using hi
      exact t_cmp (e_compM (v := .p (.list (X.endsL.map nD))) (g := nD) (l := X.endsL) (keep := fun j => (X.S i).any (· == j) && !X.pl j) (f := nD) rfl rfl (and3 rfl rfl (dec4 hel)) fun j hj => ⟨_, rfl, ifs1 (by
          rcases four hi with rfl | rfl | rfl | rfl
          · rcases four (hend j hj) with rfl | rfl | rfl | rfl <;> exact t_andB (t_cmp rfl (e_sub (fun _ _ _ _ h => nomatch h) rfl rfl rfl) (in_ok _ _ X.s0)) (t_not (t_sub rfl rfl))
          · rcases four (hend j hj) with rfl | rfl | rfl | rfl <;> exact t_andB (t_cmp rfl (e_sub (fun _ _ _ _ h => nomatch h) rfl rfl rfl) (in_ok _ _ X.s1)) (t_not (t_sub rfl rfl))
          · rcases four (hend j hj) with rfl | rfl | rfl | rfl <;> exact t_andB (t_cmp rfl (e_sub (fun _ _ _ _ h => nomatch h) rfl rfl rfl) (in_ok _ _ X.s2)) (t_not (t_sub rfl rfl))
          · rcases four (hend j hj) with rfl | rfl | rfl | rfl <;> exact t_andB (t_cmp rfl (e_sub (fun _ _ _ _ h => nomatch h) rfl rfl rfl) (in_ok _ _ X.s3)) (t_not (t_sub rfl rfl))), fun _ => rfl⟩) rfl (Eq.trans (eq_nil _ _) (by rw [List.isEmpty_map]; rfl))), fun _ => rfl⟩) (by rw [← iL_W]))) (Nat.zero_le _) rfl (pos_lim (by simp [wsD])) rfl
theorem worlds_eq (H : X.Ok) : wsD X ++ [.list (iL (W (mk4 X.w5)))] ++ [.list (iL (W (mk4 X.w6)))] = X.worldsD := by
  unfold wsD LP.worldsD
  rw [show (List.range 7) = List.range 5 ++ [5] ++ [6] from rfl, List.map_append, List.map_append]
  have e : (List.range 5).map (fun r => D.list (iL (W (mk4 (X.P r))))) = (List.range 5).map fun r => D.list (iL (W (X.R.M r))) := List.map_congr_left fun r hr => by rw [H.M r (by simpa using hr)]
  rw [e, ← H.M5, ← H.M6]; rfl
theorem st27 (H : X.Ok) {qu : List D} : exL (X.E 24) [X.lineD, [], qu, X.bkE, X.worldsD] (stL 27) = some (.next, (X.E 26), [X.lineD, [], qu, X.bkE, X.worldsD]) := by
  exact s_tgt rfl rfl rfl (e_call (vs := [.own 0, .p (.list (defsD X.R)), .p (.list (dressD X.R X.Z))]) rfl rfl rfl (evs_c (fun _ _ h => nomatch h) rfl (evs_c (fun _ _ h => nomatch h) rfl (evs_c (fun _ _ h => nomatch h) rfl rfl))) (log_ok H.O H.K H.trc _ _ _ _)) rfl
theorem st28 (H : X.Ok) {qu : List D} : exL (X.E 26) [X.lineD, [], qu, X.bkE, X.worldsD] (stL 28) = some (.next, (X.env (.p (.list X.due1))), [X.lineD, [], qu, X.bkE, X.worldsD]) := by
  exact s_name rfl rfl rfl (e_list rfl (evs_c (fun _ _ h => nomatch h) (e_tuple rfl (evs_c (fun _ _ h => nomatch h) rfl (evs_c (fun _ _ h => nomatch h) (e_call (vs := [.p (.list (iL (W X.m0)))]) rfl rfl rfl (evs_c (fun _ _ h => nomatch h) rfl rfl) (f_word _ _ H.m0lt)) rfl)) rfl) (evs_c (fun _ _ h => nomatch h) (e_tuple rfl (evs_c (fun _ _ h => nomatch h) rfl (evs_c (fun _ _ h => nomatch h) (e_call (vs := [.p (.list (iL (W X.m1)))]) rfl rfl rfl (evs_c (fun _ _ h => nomatch h) rfl rfl) (f_word _ _ H.m1lt)) rfl)) rfl) (evs_c (fun _ _ h => nomatch h) (e_tuple rfl (evs_c (fun _ _ h => nomatch h) rfl (evs_c (fun _ _ h => nomatch h) (e_call (vs := [.p (.list (iL (W X.n8)))]) rfl rfl rfl (evs_c (fun _ _ h => nomatch h) rfl rfl) (f_word _ _ H.h8)) rfl)) rfl) rfl))) rfl)
theorem LP.Ok.bkF (H : X.Ok) : X.due1 ++ X.kf.map (fun x => prD (nm x.1 x.2, word (X.R.M x.1))) = X.bkF := by
  unfold LP.due1 LP.bkF Rows.bkL
  rw [H.M0, H.M1, H.ms, List.map_append, List.map_map]; rfl
theorem LP.Ok.bkE (H : X.Ok) : X.bkE = prD (113, word X.m1) :: X.kf.map (fun x => prD (nm x.1 x.2, word (X.R.M x.1))) := by
  unfold LP.bkE Rows.bkL
  have e1 : ∀ a b, delS 112 (a ++ b) = delS 112 a ++ delS 112 b := fun a b => by unfold delS; rw [List.filter_append]
  have e2 := del_rows (f := fun r => word (X.R.M r)) (r := 0) (by decide) (q := X.kf) fun x hx => ⟨by have := (H.Kf.krow x hx).2.1; omega, (H.Kf.krow x hx).2.2⟩
  have e3 : X.kf.filter (·.1 != 0) = X.kf := filter_row fun x hx => by have := (H.Kf.krow x hx).1; omega
  have e4 : nm 0 0 = 112 := rfl
  rw [e3, e4] at e2
  rw [e1, e2, H.M0, H.M1, List.map_append, List.map_map]; rfl
theorem st29 (H : X.Ok) {qu : List D} : exL (X.env (.p (.list X.due1))) [X.lineD, [], qu, X.bkE, X.worldsD] (stL 29) = some (.next, (X.env (.p (.list X.bkF))), [X.lineD, [], qu, X.bkE, X.worldsD]) := by
  have hkl : decide ((X.kf.map pairD).length ≤ lim) = true := decide_eq_true (by rw [List.length_map]; have := H.Kf.klen; exact pos_lim' (by omega))
  have hr := H.Kf.krow
  have hn : ∀ x ∈ X.kf, gName [X.lineD, [], qu, X.bkE, X.worldsD] [.p (nD x.1), .p (nD x.2)] = some (.p (.str [nm x.1 x.2])) := fun x hx => f_name _ x.1 (by have := (hr x hx).2.1; omega) x.2 (hr x hx).2.2
  have hM : ∀ x ∈ X.kf, X.R.M x.1 < 16 := fun x hx => H.O.M x.1 (hr x hx).2.1
  have hw : ∀ x ∈ X.kf, subV ctx6 [X.lineD, [], qu, X.bkE, X.worldsD] (.own 4) (.p (nD x.1)) = some (.p (.list (iL (W (X.R.M x.1))))) := fun x hx => by
    have h6 := (hr x hx).2.1
    refine sub_own (by omega) rfl ?_
    unfold LP.worldsD
    rw [List.getElem?_map, List.getElem?_range (by omega)]; rfl
  have ha : binop [X.lineD, [], qu, X.bkE, X.worldsD] .Add (.p (.list X.due1)) (.p (.list (X.kf.map fun x => prD (nm x.1 x.2, word (X.R.M x.1))))) = some (.p (.list X.bkF)) := by
    rw [add_list (pos_lim' (by rw [List.length_map]; have := H.Kf.klen; simp only [LP.due1, List.length_cons, List.length_nil]; omega)), H.bkF]
  exact s_name rfl rfl rfl (e_bin rfl (Eq.trans (e_compM (v := .p (.list (X.kf.map pairD))) (g := pairD) (l := X.kf) (keep := fun _ => true) (f := fun x => prD (nm x.1 x.2, word (X.R.M x.1))) rfl rfl (and3 rfl rfl hkl) fun x hx => ⟨_, rfl, rfl, fun _ => e_tuple rfl (evs_c (fun _ _ h => nomatch h) (e_call (vs := [.p (nD x.1), .p (nD x.2)]) rfl rfl rfl (evs_c (fun _ _ h => nomatch h) rfl (evs_c (fun _ _ h => nomatch h) rfl rfl)) (hn x hx)) (evs_c (fun _ _ h => nomatch h) (e_call (vs := [.p (.list (iL (W (X.R.M x.1))))]) rfl rfl rfl (evs_c (fun _ _ h => nomatch h) (e_sub (fun _ _ _ _ h => nomatch h) rfl rfl (hw x hx)) rfl) (f_word _ _ (hM x hx))) rfl)) rfl⟩) (by rw [filter_tt])) ha)
theorem st30 (H : X.Ok) {qu : List D} : exL (X.env (.p (.list X.bkF))) [X.lineD, [], qu, X.bkE, X.worldsD] (stL 30) = some (.next, (X.env (.p (.list X.bkF))), [X.lineD, [], qu, X.bkE, X.worldsD]) := by
  have hpr : ∀ d ∈ X.bkF, D.eqOk d d 9 = true := fun d hd => by
    obtain ⟨x, _, rfl⟩ := List.mem_map.mp hd
    exact eqOk_prD x
  have hpr2 : ∀ d ∈ X.bkE, D.eqOk d d 9 = true := fun d hd => by
    obtain ⟨x, _, rfl⟩ := List.mem_map.mp hd
    exact eqOk_prD x
  have hk := H.Kf.klen
  have hF := H.bkF
  have hl : X.bkF.length = 3 + X.kf.length := by rw [← hF, List.length_append, List.length_map]; rfl
  have hll : X.bkF.length ≤ lim := pos_lim' (by omega)
  have hs1 : ∀ {σ : Sto}, sliced σ (.p (.list X.bkF)) (some 1) (some 2) none = some (.p (.list [prD (113, word X.m1)])) := fun {σ} => by
    have := pick_run2 X.bkF 1 2 (by decide) (by omega)
    rw [sliced_list hll rfl]
    exact (congrArg (fun l => some (V.p (.list l))) this).trans (by rw [← hF]; rfl)
  have hs2 : ∀ {σ : Sto}, sliced σ (.p (.list X.bkF)) (some 3) none none = some (.p (.list (X.kf.map fun x => prD (nm x.1 x.2, word (X.R.M x.1))))) := fun {σ} => by
    have := pick_from X.bkF 3 (by omega)
    rw [sliced_list hll rfl]
    exact (congrArg (fun l => some (V.p (.list l))) this).trans (by rw [← hF]; rfl)
  have ha : ∀ {σ : Sto}, binop σ .Add (.p (.list [prD (113, word X.m1)])) (.p (.list (X.kf.map fun x => prD (nm x.1 x.2, word (X.R.M x.1))))) = some (.p (.list X.bkE)) := fun {σ} => by
    rw [add_list (pos_lim' (by rw [List.length_map]; simp only [List.length_cons, List.length_nil]; omega)), H.bkE]; rfl
  exact s_if_f (t_or5 (t_not (x := true) (t_name rfl rfl)) (t_cmp rfl rfl (ne_list (trc_eqOk X.R 18 _ _ _ _ H.trc))) (t_cmp rfl rfl (ne_own (l := []) rfl)) (t_cmp rfl rfl (ne_list hpr)) (t_cmp (u := .own 3) (w := .p (.list X.bkE)) rfl (e_bin (u := .p (.list [prD (113, word X.m1)])) (w := .p (.list (X.kf.map fun x => prD (nm x.1 x.2, word (X.R.M x.1))))) (e_slice (u := .p (.list X.bkF)) (a := .p (nD 1)) (b := .p (nD 2)) (c := .p .none) rfl rfl rfl rfl rfl rfl rfl hs1) (e_slice (u := .p (.list X.bkF)) (a := .p (nD 3)) (b := .p .none) (c := .p .none) rfl rfl rfl rfl rfl rfl rfl hs2) ha) (ne_listO rfl hpr2))) b_nil
theorem st31 {k : Nat} (hk : k ≤ 60) : exL (X.env (.p (.list X.bkF))) [X.lineD, [], List.replicate k .none, X.bkE, X.worldsD] (stL 31) = some (.ret (.p (.bool true)), X.env (.p (.list X.bkF)), [X.lineD, [], List.replicate k .none, X.bkE, X.worldsD]) := by
  have hl : decide (((List.range k).map fun _ => D.none).length ≤ lim) = true := decide_eq_true (by rw [List.length_map, List.length_range]; exact pos_lim' (by omega))
  have hr : List.replicate k D.none = (List.range k).map fun _ => D.none := by
    rw [List.map_const', List.length_range]
  rw [hr]
  exact s_ret (e_cmp (e_compM (v := .p (.list ((List.range k).map fun _ => D.none))) (g := fun _ => D.none) (l := List.range k) (keep := fun _ => false) (f := fun _ => D.none) rfl rfl (and3 rfl rfl hl) fun d hd => ⟨_, rfl, ifs1 (t_cmp rfl rfl rfl), fun h => by cases h⟩) rfl (Eq.trans (eq_nil _ _) (by simp)))
end
-- E34
section
variable {S S' : Fr4} {k : List Nat} {p q p' q' : Ws}
theorem forced_endsF (h' : ∀ i < 4, S' i = [i]) (hp : SameEnds S p p') (hq : SameEnds S q q') : SameEnds S (forcedS S k p q) (forcedS S' k p' q') := by
  intro i hi he
  unfold forcedS
  rw [hp i hi he, hq i hi he, he, h' i hi]
  split
  · rfl
  · split
    · rfl
    · rw [List.filter_cons, List.filter_cons, hp i hi he, hq i hi he]
      rfl
theorem up_up (O : S.Ok) (n : Nat) : Up S (upS S n) := by
  intro i hi j hj h
  unfold upS at h ⊢
  rw [Bool.not_eq_true'] at h ⊢
  rw [List.isEmpty_eq_false_iff_exists_mem] at h ⊢
  obtain ⟨x, hx⟩ := h
  obtain ⟨h1, h2⟩ := List.mem_filter.mp hx
  obtain ⟨y, hy, e⟩ := List.any_eq_true.mp h2
  have e := eq_of_beq e
  subst e
  have hx4 : x < 4 := by simpa using (List.mem_filter.mp h1).1
  exact ⟨x, List.mem_filter.mpr ⟨h1, List.any_eq_true.mpr ⟨j, O.trans x hx4 y hy j hj, by simp⟩⟩⟩
theorem testBit_mk4 : ∀ m < 16, mk4 m.testBit = m := by decide +kernel
theorem up_bits (O : S.Ok) (n : Nat) : Up S (mk4 (upS S n)).testBit := by
  intro i hi j hj h
  rw [mk4_bit _ i hi] at h
  rw [mk4_bit _ j (O.lt i hi j hj)]
  exact up_up O n i hi j hj h
end
section
variable {S S' : Fr4} {R : Rows} {m0 m1 : Nat}
theorem pv4_lo (r : Nat) (h : r < 2) : pv4 S R m0 m1 r = base2 m0 m1 r := by
  unfold pv4 pv3 pv2 add4
  rw [if_neg (by omega), if_neg (by omega), if_neg (by omega)]
theorem pv4_2 : pv4 S R m0 m1 2 = forcedS S (R.kind 2) (base2 m0 m1 (R.fst 2)) (base2 m0 m1 (R.lst 2)) := rfl
theorem pv4_3 : pv4 S R m0 m1 3 = forcedS S (R.kind 3) (pv2 S R m0 m1 (R.fst 3)) (pv2 S R m0 m1 (R.lst 3)) := rfl
theorem pv4_4 : pv4 S R m0 m1 4 = forcedS S (R.kind 4) (pv3 S R m0 m1 (R.fst 4)) (pv3 S R m0 m1 (R.lst 4)) := rfl
theorem pv2_eq (r : Nat) (h : r < 3) : pv2 S R m0 m1 r = pv4 S R m0 m1 r := by
  unfold pv4 pv3 add4
  rw [if_neg (by omega), if_neg (by omega)]
theorem pv3_eq (r : Nat) (h : r < 4) : pv3 S R m0 m1 r = pv4 S R m0 m1 r := by
  unfold pv4 add4
  rw [if_neg (by omega)]
theorem pv4_rec (hf : ∀ r, 2 ≤ r → r ≤ 6 → R.fst r < r) (hl : ∀ r, 2 ≤ r → r ≤ 6 → R.lst r < r) (r : Nat) (h2 : 2 ≤ r) (h4 : r ≤ 4) : pv4 S R m0 m1 r = forcedS S (R.kind r) (pv4 S R m0 m1 (R.fst r)) (pv4 S R m0 m1 (R.lst r)) := by
  have f := hf r h2 (by omega)
  have l := hl r h2 (by omega)
  have : r = 2 ∨ r = 3 ∨ r = 4 := by omega
  rcases this with rfl | rfl | rfl
  · rw [pv4_2, ← pv4_lo (S := S) (R := R) _ f, ← pv4_lo (S := S) (R := R) _ l]
  · rw [pv4_3, pv2_eq _ f, pv2_eq _ l]
  · rw [pv4_4, pv3_eq _ f, pv3_eq _ l]
theorem pv4_good (O : S.Ok) (h' : ∀ i < 4, S' i = [i]) (hf : ∀ r, 2 ≤ r → r ≤ 6 → R.fst r < r) (hl : ∀ r, 2 ≤ r → r ≤ 6 → R.lst r < r) (u0 : Up S m0.testBit) (u1 : Up S m1.testBit) : ∀ r, r ≤ 4 → Up S (pv4 S R m0 m1 r) ∧ SameEnds S (pv4 S R m0 m1 r) (pv4 S' R m0 m1 r) := by
  have lo : ∀ r, r < 2 → Up S (pv4 S R m0 m1 r) ∧ SameEnds S (pv4 S R m0 m1 r) (pv4 S' R m0 m1 r) := fun r hr => by
    rw [pv4_lo r hr, pv4_lo r hr]
    refine ⟨?_, fun i _ _ => rfl⟩
    unfold base2
    split
    · exact u0
    · exact u1
  have step : ∀ r, 2 ≤ r → r ≤ 4 → (∀ x, x < r → Up S (pv4 S R m0 m1 x) ∧ SameEnds S (pv4 S R m0 m1 x) (pv4 S' R m0 m1 x)) → Up S (pv4 S R m0 m1 r) ∧ SameEnds S (pv4 S R m0 m1 r) (pv4 S' R m0 m1 r) := fun r h2 h4 ih => by
    rw [pv4_rec (S := S) hf hl r h2 h4, pv4_rec (S := S') hf hl r h2 h4]
    obtain ⟨a, b⟩ := ih _ (hf r h2 (by omega))
    obtain ⟨c, d⟩ := ih _ (hl r h2 (by omega))
    exact ⟨forced_up O a c, forced_endsF h' b d⟩
  have g2 := step 2 (by decide) (by decide) lo
  have l3 : ∀ x, x < 3 → _ := fun x hx => if h : x < 2 then lo x h else (by have : x = 2 := by omega
                                                                            subst this; exact g2)
  have g3 := step 3 (by decide) (by decide) l3
  have l4 : ∀ x, x < 4 → _ := fun x hx => if h : x < 3 then l3 x h else (by have : x = 3 := by omega
                                                                            subst this; exact g3)
  have g4 := step 4 (by decide) (by decide) l4
  intro r hr
  by_cases h : r < 4
  · exact l4 r h
  · have : r = 4 := by omega
    subst this; exact g4
theorem ends_eq (O : S.Ok) (f : Ws) (i : Nat) (hi : i < 4) : ((S i).filter fun j => (S j == [j]) && f j).isEmpty = (((List.range 4).filter fun j => S j == [j]).filter fun j => (S i).any (· == j) && f j).isEmpty := by
  rw [Bool.eq_iff_iff, empty_filter, empty_filter]
  constructor
  · intro h j hj
    obtain ⟨h1, h2⟩ := List.mem_filter.mp hj
    cases ha : (S i).any (· == j) with
    | false => rfl
    | true =>
      obtain ⟨x, hx, e⟩ := List.any_eq_true.mp ha
      have e := eq_of_beq e
      subst e
      have := h x hx
      rw [h2, Bool.true_and] at this
      rw [this]; rfl
  · intro h j hj
    cases he : S j == [j] with
    | false => rfl
    | true =>
      have := h j (List.mem_filter.mpr ⟨by simpa using O.lt i hi j hj, he⟩)
      rw [List.any_eq_true.mpr ⟨j, hj, by simp⟩, Bool.true_and] at this
      rw [this]; rfl
end
noncomputable def mvS (S : Fr4) (R : Rows) (m0 m1 : Nat) (r : Nat) : Ws :=
  if r ≤ 4 then pv4 S R m0 m1 r else if r = 5 then forcedS S bN (pv4 S R m0 m1 4) (pv4 S R m0 m1 4) else forcedS S bN (forcedS S bN (pv4 S R m0 m1 4) (pv4 S R m0 m1 4)) (forcedS S bN (pv4 S R m0 m1 4) (pv4 S R m0 m1 4))
structure Shape (R : Rows) : Prop where
  kind : ∀ r, 2 ≤ r → r ≤ 6 → R.kind r = bT ∨ R.kind r = bA ∨ R.kind r = bO ∨ R.kind r = bN
  fst : ∀ r, 2 ≤ r → r ≤ 6 → R.fst r < r
  lst : ∀ r, 2 ≤ r → r ≤ 6 → R.lst r < r
  not : ∀ r, 2 ≤ r → r ≤ 6 → R.kind r = bN → R.lst r = R.fst r
  g1 : ∀ r, R.g1 r < 2
  g2 : ∀ r, R.g2 r < 2
  k5 : R.kind 5 = bN
  f5 : R.fst 5 = 4
  l5 : R.lst 5 = 4
  k6 : R.kind 6 = bN
  f6 : R.fst 6 = 5
  l6 : R.lst 6 = 5
noncomputable def full (R : Rows) (Z : Dress) (S : Fr4) (m0 m1 ms : Nat) : Rows :=
  { R with T := fun r => if r ≤ 6 then textS (Z.way r) (Z.gap r) (R.tl r) else text7 (Z.way 7), M := fun r => mk4 (mvS S R m0 m1 r), ms := ms, c0 := cone S 0, c1 := cone S 1, c2 := cone S 2, c3 := cone S 3 }
section
variable {S : Fr4} {R : Rows} {Z : Dress} {m0 m1 ms : Nat}
theorem mvS_rec (H : Shape R) (r : Nat) (h2 : 2 ≤ r) (h6 : r ≤ 6) : mvS S R m0 m1 r = forcedS S (R.kind r) (mvS S R m0 m1 (R.fst r)) (mvS S R m0 m1 (R.lst r)) := by
  by_cases h4 : r ≤ 4
  · have f := H.fst r h2 h6
    have l := H.lst r h2 h6
    have e : ∀ x, x ≤ 4 → mvS S R m0 m1 x = pv4 S R m0 m1 x := fun x hx => by unfold mvS; rw [if_pos hx]
    rw [e r h4, e _ (by omega), e _ (by omega), pv4_rec H.fst H.lst r h2 h4]
  · have : r = 5 ∨ r = 6 := by omega
    rcases this with rfl | rfl
    · rw [H.k5, H.f5, H.l5]; rfl
    · rw [H.k6, H.f6, H.l6]; rfl
theorem cone_lt (S : Fr4) (i : Nat) : cone S i < 16 := mk4_lt _
theorem full_ok0 (H : Shape R) (O : S.Ok) (hs : ms < 16) : (full R Z S m0 m1 ms).Ok0 := by
  refine ⟨H.kind, H.fst, H.lst, H.not, H.g1, H.g2, fun r _ => mk4_lt _, hs, cone_lt S 0, cone_lt S 1, cone_lt S 2, cone_lt S 3, fun r h2 h6 => ?_⟩
  show mk4 (mvS S R m0 m1 r) = _
  rw [mvS_rec H r h2 h6, forced_mk O (H.kind r h2 h6)]
  rfl
end
-- E35
section
variable {L : List Int} {cells f : V} {t0 t1 t2 t3 t4 t5 n6 n7 n8 : Nat} {R : Rows} {Z : Dress} {s0 s1 s2 s3 line left : List Nat}
noncomputable def mkX (L : List Int) (cells f : V) (t0 t1 t2 t3 t4 t5 n6 n7 n8 : Nat) (R : Rows) (Z : Dress) (s0 s1 s2 s3 line left : List Nat) (log : List D) (kf : Q) : LP :=
  ⟨L, cells, t0, t1, t2, t3, t4, t5, n6, n7, n8, full R Z (fr s0 s1 s2 s3) (mk4 (upS (fr s0 s1 s2 s3) n6)) (mk4 (upS (fr s0 s1 s2 s3) n7)) n8, Z, s0, s1, s2, s3, line, left, f, log, kf⟩
theorem x_ok (H : Shape R) (Y : Z.Ok) (h0 : t0 < 2) (h1 : t1 < 2) (h2 : t2 < 2) (h3 : t3 < 2) (h4 : t4 < 2) (h5 : t5 < 2) (h6 : n6 < 16) (h7 : n7 < 16) (h8 : n8 < 16)
    (hs : seesS t0 t1 t2 t3 t4 t5 = [s0, s1, s2, s3]) (hl : line.Perm [2, 3, 4, 5, 6, 7]) : ∃ log kf, (mkX L cells f t0 t1 t2 t3 t4 t5 n6 n7 n8 R Z s0 s1 s2 s3 line left log kf).Ok := by
  have F : (fr s0 s1 s2 s3).Ok := by
    have := (sees_chk t0 h0 t1 h1 t2 h2 t3 h3 t4 h4 t5 h5).1
    rw [hs] at this
    exact frChk_ok this
  have hS : Lt4 s0 s1 s2 s3 := ⟨⟨F.lt 0 (by decide), F.len 0 (by decide)⟩, ⟨F.lt 1 (by decide), F.len 1 (by decide)⟩, ⟨F.lt 2 (by decide), F.len 2 (by decide)⟩, ⟨F.lt 3 (by decide), F.len 3 (by decide)⟩⟩
  have O0 := full_ok0 (Z := Z) (m0 := mk4 (upS (fr s0 s1 s2 s3) n6)) (m1 := mk4 (upS (fr s0 s1 s2 s3) n7)) H F h8
  have hT : ∀ r, 2 ≤ r → r ≤ 6 → (full R Z (fr s0 s1 s2 s3) (mk4 (upS (fr s0 s1 s2 s3) n6)) (mk4 (upS (fr s0 s1 s2 s3) n7)) n8).T r = textS (Z.way r) (Z.gap r) (R.tl r) := fun r _ h6 => if_pos h6
  have O := O0.ok Y hT rfl
  have hrow : ∀ r ∈ line, 2 ≤ r ∧ r ≤ 7 := fun r hr => by
    have := hl.mem_iff.mp hr
    simp at this
    omega
  have hlen : line.length ≤ 6 := Nat.le_of_eq hl.length_eq
  have hnd : line.Nodup := hl.nodup_iff.mpr (by decide)
  have hq : (line.map fun r => (r, Z.gr r)).map (·.1) = line := by rw [List.map_map]; exact List.map_id line
  have K : QOk (line.map fun r => (r, Z.gr r)) [] := by
    refine ⟨fun x hx => ?_, by rw [hq]; exact hnd, by rw [List.length_map]; exact hlen, (fun x hx => by cases hx), fun x _ y hy => by cases hy⟩
    obtain ⟨r, hr, rfl⟩ := List.mem_map.mp hx
    exact ⟨(hrow r hr).1, (hrow r hr).2, Y.gr r⟩
  have Lv : Lev (full R Z (fr s0 s1 s2 s3) (mk4 (upS (fr s0 s1 s2 s3) n6)) (mk4 (upS (fr s0 s1 s2 s3) n7)) n8) 2 (line.map fun r => (r, Z.gr r)) [] := by
    refine ⟨K, fun r h2 h => absurd h (by omega), fun r h2 h6 => .inr ?_, fun x hx => ?_⟩
    · have : r ∈ line := hl.mem_iff.mpr (by simp; omega)
      exact ⟨(r, Z.gr r), List.mem_map.mpr ⟨r, this, rfl⟩, rfl⟩
    · obtain ⟨a, b, _⟩ := K.row x hx
      by_cases h : x.1 = 7
      · exact .inr ⟨rfl, h⟩
      · exact .inl ⟨a, by omega⟩
  obtain ⟨⟨log, kf⟩, htrc⟩ := Option.isSome_iff_exists.mp (trc_ends O Lv)
  have u0 := up_bits F n6
  have u1 := up_bits F n7
  obtain ⟨g4u, g4e⟩ := pv4_good (S' := fr [0] [1] [2] [3]) (R := R) F (fun i hi => by rcases four hi with rfl | rfl | rfl | rfl <;> rfl) H.fst H.lst u0 u1 4 (by decide)
  refine ⟨log, kf, ⟨O, O0, Y, hS, F, hs, h0, h1, h2, h3, h4, h5, h6, h7, h8, rfl, ?_, ?_, fun r hr => ?_, ?_, ?_, rfl, rfl, rfl, rfl, K, hrow, hlen, hT, rfl, htrc⟩⟩
  · show mk4 (mk4 (upS (fr s0 s1 s2 s3) n6)).testBit = mk4 (upS (fr s0 s1 s2 s3) n6)
    exact testBit_mk4 _ (mk4_lt _)
  · show mk4 (mk4 (upS (fr s0 s1 s2 s3) n7)).testBit = mk4 (upS (fr s0 s1 s2 s3) n7)
    exact testBit_mk4 _ (mk4_lt _)
  · show mk4 (mvS _ R _ _ r) = _
    unfold mvS
    rw [if_pos (by omega)]
    rfl
  · refine mk4_ext fun i hi => ?_
    exact (not_ends F g4u g4e i hi).trans (ends_eq F _ i hi)
  · refine mk4_ext fun i hi => ?_
    exact (notnot_ends F g4u g4e i hi).trans (ends_eq F _ i hi)
end
-- E36
theorem bd_cons {ns : List Nat} {b : Nat} {bs : List Nat} (h : Bd ns (b :: bs)) : ∃ n ns', ns = n :: ns' ∧ n < b ∧ Bd ns' bs := by
  cases ns with
  | nil => exact h.elim
  | cons n ns => exact ⟨n, ns, rfl, h.1, h.2⟩
theorem bd_nil {ns : List Nat} (h : Bd ns []) : ns = [] := by
  cases ns with
  | nil => rfl
  | cons n ns => exact h.elim
noncomputable def rowsOf (f0 f1 f2 f3 f4 f5 f6 f7 f8 : Nat) (g1 g2 : Nat → Nat) : Rows :=
  { kind := fun r => match r with | 2 => kindS f0 | 3 => kindS f3 | 4 => kindS f6 | _ => bN,
    fst := fun r => match r with | 2 => 1 + 0 - f1 | 3 => 1 + 1 - f4 | 4 => 1 + 2 - f7 | 5 => 4 | 6 => 5 | _ => 0,
    lst := fun r => match r with | 2 => if kindS f0 == bN then 1 + 0 - f1 else 1 + 0 - f2 | 3 => if kindS f3 == bN then 1 + 1 - f4 else 1 + 1 - f5 | 4 => if kindS f6 == bN then 1 + 2 - f7 else 1 + 2 - f8 | 5 => 4 | 6 => 5 | _ => 0,
    g1 := g1, g2 := g2, T := fun _ => [], M := fun _ => 0, ms := 0, c0 := 0, c1 := 0, c2 := 0, c3 := 0 }
theorem shape_of {f0 f1 f2 f3 f4 f5 f6 f7 f8 : Nat} {g1 g2 : Nat → Nat} (h0 : f0 < 5) (h3 : f3 < 5) (h6 : f6 < 5) (hg1 : ∀ r, g1 r < 2) (hg2 : ∀ r, g2 r < 2) : Shape (rowsOf f0 f1 f2 f3 f4 f5 f6 f7 f8 g1 g2) := by
  refine ⟨fun r a b => ?_, fun r a b => ?_, fun r a b => ?_, fun r a b hk => ?_, hg1, hg2, rfl, rfl, rfl, rfl, rfl, rfl⟩
  all_goals
    have hr : r = 2 ∨ r = 3 ∨ r = 4 ∨ r = 5 ∨ r = 6 := by omega
    rcases hr with rfl | rfl | rfl | rfl | rfl
  · exact kindS_ok f0 h0
  · exact kindS_ok f3 h3
  · exact kindS_ok f6 h6
  · exact .inr (.inr (.inr rfl))
  · exact .inr (.inr (.inr rfl))
  · show 1 + 0 - f1 < 2; omega
  · show 1 + 1 - f4 < 3; omega
  · show 1 + 2 - f7 < 4; omega
  · exact (by decide : 4 < 5)
  · exact (by decide : 5 < 6)
  · show (if kindS f0 == bN then 1 + 0 - f1 else 1 + 0 - f2) < 2; split <;> omega
  · show (if kindS f3 == bN then 1 + 1 - f4 else 1 + 1 - f5) < 3; split <;> omega
  · show (if kindS f6 == bN then 1 + 2 - f7 else 1 + 2 - f8) < 4; split <;> omega
  · exact (by decide : 4 < 5)
  · exact (by decide : 5 < 6)
  · exact if_pos (beq_iff_eq.mpr hk)
  · exact if_pos (beq_iff_eq.mpr hk)
  · exact if_pos (beq_iff_eq.mpr hk)
  · rfl
  · rfl
theorem bd_at : ∀ {ns bs : List Nat}, Bd ns bs → ns.length = bs.length ∧ ∀ i, i < bs.length → ns.getD i 0 < bs.getD i 0
  | [], [], _ => ⟨rfl, fun i h => nomatch h⟩
  | [], _ :: _, h => h.elim
  | _ :: _, [], h => h.elim
  | n :: ns, b :: bs, h => ⟨congrArg (· + 1) (bd_at h.2).1, fun i hi => match i with
    | 0 => h.1
    | i + 1 => (bd_at h.2).2 i (Nat.lt_of_succ_lt_succ hi)⟩
theorem list_at : ∀ (ns : List Nat), ns = (List.range ns.length).map fun i => ns.getD i 0
  | [] => rfl
  | n :: ns => by
    rw [List.length_cons, List.range_succ_eq_map, List.map_cons, List.map_map]
    exact congrArg (n :: ·) (list_at ns)
noncomputable def dcap (k : Nat) : Nat := [3, 3, 2, 2, 2].getD k 0
theorem bs3_at : ∀ i, i < 6 → ∀ k, k < 5 → bs3.getD (5 * i + k) 0 = dcap k := by decide
theorem dress_at {ns : List Nat} (h : Bd ns bs3) (i k : Nat) (hk : k < 5) (hp : 0 < dcap k) : ns.getD (5 * i + k) 0 < dcap k := by
  have hl : ns.length = 30 := (bd_at h).1
  by_cases hi : i < 6
  · rw [← bs3_at i hi k hk]
    exact (bd_at h).2 _ (by show _ < 30; omega)
  · rw [List.getD_eq_getElem?_getD, List.getElem?_eq_none (by omega)]
    exact hp
theorem dress_eq (g : Nat → Nat) (R : Rows) (e1 : R.g1 = fun r => g (5 * (r - 2) + 3)) (e2 : R.g2 = fun r => g (5 * (r - 2) + 4)) :
    ((List.range 30).map g).map nD = dressD R ⟨fun r => g (5 * (r - 2) + 0), fun r => g (5 * (r - 2) + 1), fun r => g (5 * (r - 2) + 2)⟩ := by
  unfold dressD dress5
  rw [e1, e2]
  rfl
theorem dress_of {ns : List Nat} (h : Bd ns bs3) : ∃ (Z : Dress) (g1 g2 : Nat → Nat), Z.Ok ∧ (∀ r, g1 r < 2) ∧ (∀ r, g2 r < 2) ∧ ∀ R : Rows, R.g1 = g1 → R.g2 = g2 → ns.map nD = dressD R Z := by
  have hl : ns.length = 30 := (bd_at h).1
  refine ⟨⟨fun r => ns.getD (5 * (r - 2) + 0) 0, fun r => ns.getD (5 * (r - 2) + 1) 0, fun r => ns.getD (5 * (r - 2) + 2) 0⟩, fun r => ns.getD (5 * (r - 2) + 3) 0, fun r => ns.getD (5 * (r - 2) + 4) 0, ⟨fun r => dress_at h (r - 2) 0 (by decide) (by decide), fun r => dress_at h (r - 2) 1 (by decide) (by decide), fun r => dress_at h (r - 2) 2 (by decide) (by decide)⟩, fun r => dress_at h (r - 2) 3 (by decide) (by decide), fun r => dress_at h (r - 2) 4 (by decide) (by decide), fun R e1 e2 => ?_⟩
  refine Eq.trans ?_ (dress_eq (fun i => ns.getD i 0) R e1 e2)
  rw [← hl, ← list_at]
theorem drawn_of {ns : List Nat} (h : Bd ns bs1) : ∃ t0 t1 t2 t3 t4 t5 n6 n7 n8, ns = [t0, t1, t2, t3, t4, t5, n6, n7, n8] ∧ t0 < 2 ∧ t1 < 2 ∧ t2 < 2 ∧ t3 < 2 ∧ t4 < 2 ∧ t5 < 2 ∧ n6 < 16 ∧ n7 < 16 ∧ n8 < 16 := by
  have hl : ns.length = 9 := (bd_at h).1
  have q := (bd_at h).2
  exact ⟨_, _, _, _, _, _, _, _, _, (list_at ns).trans (by rw [hl]; rfl), q 0 (by decide), q 1 (by decide), q 2 (by decide), q 3 (by decide), q 4 (by decide), q 5 (by decide), q 6 (by decide), q 7 (by decide), q 8 (by decide)⟩
theorem defs_of {ns : List Nat} (h : Bd ns bs2) : ∃ f0 f1 f2 f3 f4 f5 f6 f7 f8, ns = [f0, f1, f2, f3, f4, f5, f6, f7, f8] ∧ f0 < 5 ∧ f1 < 2 ∧ f2 < 2 ∧ f3 < 5 ∧ f4 < 3 ∧ f5 < 3 ∧ f6 < 5 ∧ f7 < 4 ∧ f8 < 4 := by
  have hl : ns.length = 9 := (bd_at h).1
  have q := (bd_at h).2
  exact ⟨_, _, _, _, _, _, _, _, _, (list_at ns).trans (by rw [hl]; rfl), q 0 (by decide), q 1 (by decide), q 2 (by decide), q 3 (by decide), q 4 (by decide), q 5 (by decide), q 6 (by decide), q 7 (by decide), q 8 (by decide)⟩
theorem fig_nat {b : List Nat} (hb : ∀ x ∈ b, 0 < x) (c : Int) : ∃ ns, Bd ns b ∧ (figsS c (b.map fun (b : Nat) => (b : Int))).map D.int = ns.map nD := by
  obtain ⟨ns, h1, h2⟩ := figs_bd b c hb
  exact ⟨ns, h1, by rw [h2, nD_map]⟩
section
variable {L : List Int} {c0 c1 c2 c3 : Int}
noncomputable def cellsV (c0 c1 c2 c3 : Int) : V := .p (.list [.int c0, .int c1, .int c2, .int c3])
abbrev e1 (L : List Int) (c : V) : Rho := [("script", .p (.list (L.map .int))), ("cells", c)]
theorem st0 : exL [("script", .p (.list (L.map .int)))] [] (stL 0) = some (.next, e1 L (cellsV 6675 19250 17797674070 448), []) := s_name rfl rfl rfl rfl
theorem st1 (hL : L.length ≤ 63) : ∃ c0 c1 c2 c3, exL (e1 L (cellsV 6675 19250 17797674070 448)) [] (stL 1) = some (.next, e1 L (cellsV c0 c1 c2 c3), []) := by
  obtain ⟨x0, a0, b0⟩ := cell_ok [] hL 0 (by decide)
  obtain ⟨x1, a1, b1⟩ := cell_ok [] hL 1 (by decide)
  obtain ⟨x2, a2, b2⟩ := cell_ok [] hL 2 (by decide)
  obtain ⟨x3, a3, b3⟩ := cell_ok [] hL 3 (by decide)
  refine ⟨6675 + x0.sum, 19250 + x1.sum, 17797674070 + x2.sum, 448 + x3.sum, ?_⟩
  refine s_name rfl rfl rfl (Eq.trans (e_compM (v := .rng 0 1 4) (g := nD) (l := [0, 1, 2, 3]) (keep := fun _ => true) (f := fun k => match k with | 0 => D.int (6675 + x0.sum) | 1 => D.int (19250 + x1.sum) | 2 => D.int (17797674070 + x2.sum) | _ => D.int (448 + x3.sum)) rfl rfl rfl fun k hk => ⟨_, rfl, rfl, fun _ => ?_⟩) (by rw [filter_tt]; rfl))
  have hk : k < 4 := by simp at hk; omega
  rcases four hk with rfl | rfl | rfl | rfl
  · exact e_bin rfl (e_call (vs := [.p (.list (x0.map .int))]) rfl rfl rfl (evs_c (fun _ _ h => nomatch h) (e_slice (u := .p (.list (L.map .int))) (a := .p (nD 0)) (b := .p .none) (c := .p (.int 4)) rfl rfl rfl rfl rfl rfl rfl a0) rfl) b0) rfl
  · exact e_bin rfl (e_call (vs := [.p (.list (x1.map .int))]) rfl rfl rfl (evs_c (fun _ _ h => nomatch h) (e_slice (u := .p (.list (L.map .int))) (a := .p (nD 1)) (b := .p .none) (c := .p (.int 4)) rfl rfl rfl rfl rfl rfl rfl a1) rfl) b1) rfl
  · exact e_bin rfl (e_call (vs := [.p (.list (x2.map .int))]) rfl rfl rfl (evs_c (fun _ _ h => nomatch h) (e_slice (u := .p (.list (L.map .int))) (a := .p (nD 2)) (b := .p .none) (c := .p (.int 4)) rfl rfl rfl rfl rfl rfl rfl a2) rfl) b2) rfl
  · exact e_bin rfl (e_call (vs := [.p (.list (x3.map .int))]) rfl rfl rfl (evs_c (fun _ _ h => nomatch h) (e_slice (u := .p (.list (L.map .int))) (a := .p (nD 3)) (b := .p .none) (c := .p (.int 4)) rfl rfl rfl rfl rfl rfl rfl a3) rfl) b3) rfl
abbrev e2 (L : List Int) (c d : V) : Rho := [("script", .p (.list (L.map .int))), ("cells", c), ("drawn", d)]
abbrev e3 (L : List Int) (c d e : V) : Rho := [("script", .p (.list (L.map .int))), ("cells", c), ("drawn", d), ("defs", e)]
abbrev e4 (L : List Int) (c d e f : V) : Rho := [("script", .p (.list (L.map .int))), ("cells", c), ("drawn", d), ("defs", e), ("dress", f)]
abbrev e5 (L : List Int) (c d e f g : V) : Rho := [("script", .p (.list (L.map .int))), ("cells", c), ("drawn", d), ("defs", e), ("dress", f), ("left", g)]
theorem st2 {ns : List Nat} (h : (figsS c0 (bs1.map fun (b : Nat) => (b : Int))).map D.int = ns.map nD) : exL (e1 L (cellsV c0 c1 c2 c3)) [] (stL 2) = some (.next, e2 L (cellsV c0 c1 c2 c3) (.p (.list (ns.map nD))), []) :=
  s_name rfl rfl rfl (e_call (vs := [.p (.int c0), .p (.list (bs1.map nD))]) rfl rfl rfl (evs_c (fun _ _ h => nomatch h) rfl (evs_c (fun _ _ h => nomatch h) rfl rfl)) (Eq.trans (fig1 c0) (by rw [h])))
theorem st3 {d : V} {f0 f1 f2 f3 f4 f5 f6 f7 f8 : Nat} (h : (figsS c1 (bs2.map fun (b : Nat) => (b : Int))).map D.int = [f0, f1, f2, f3, f4, f5, f6, f7, f8].map nD) (h0 : f0 < 5) (h1 : f1 < 2) (h2 : f2 < 2) (h3 : f3 < 5) (h4 : f4 < 3) (h5 : f5 < 3) (h6 : f6 < 5) (h7 : f7 < 4) (h8 : f8 < 4) {g1 g2 : Nat → Nat} :
    exL (e2 L (cellsV c0 c1 c2 c3) d) [] (stL 3) = some (.next, e3 L (cellsV c0 c1 c2 c3) d (.p (.list (defsD (rowsOf f0 f1 f2 f3 f4 f5 f6 f7 f8 g1 g2)))), []) :=
  s_name rfl rfl rfl (e_call (vs := [.p (.list (figD f0 f1 f2 f3 f4 f5 f6 f7 f8))]) rfl rfl rfl (evs_c (fun _ _ h => nomatch h) (e_call (vs := [.p (.int c1), .p (.list (bs2.map nD))]) rfl rfl rfl (evs_c (fun _ _ h => nomatch h) rfl (evs_c (fun _ _ h => nomatch h) rfl rfl)) (Eq.trans (fig2 c1) (by rw [h]; rfl))) rfl) (defs_ok h0 h1 h2 h3 h4 h5 h6 h7 h8))
theorem st4 {d e : V} {ns : List Nat} (h : (figsS c2 (bs3.map fun (b : Nat) => (b : Int))).map D.int = ns.map nD) : exL (e3 L (cellsV c0 c1 c2 c3) d e) [] (stL 4) = some (.next, e4 L (cellsV c0 c1 c2 c3) d e (.p (.list (ns.map nD))), []) :=
  s_name rfl rfl rfl (e_call (vs := [.p (.int c2), .p (.list (bs3.map nD))]) rfl rfl rfl (evs_c (fun _ _ h => nomatch h) rfl (evs_c (fun _ _ h => nomatch h) rfl rfl)) (Eq.trans (fig3 c2) (by rw [h])))
theorem st5 {c d e f : V} : exL (e4 L c d e f) [] (stL 5) = some (.next, e5 L c d e f (.p (.list ([2, 3, 4, 5, 6, 7].map nD))), []) := s_name rfl rfl rfl rfl
theorem st6 {c d e f : V} : exL (e5 L c d e f (.p (.list ([2, 3, 4, 5, 6, 7].map nD)))) [] (stL 6) = some (.next, aE (.p (.list (L.map .int))) c d e f [2, 3, 4, 5, 6, 7], [[]]) := s_fresh rfl rfl rfl
theorem st7 {d e f : V} {ns : List Nat} (h : (figsS c3 (bs4.map fun (b : Nat) => (b : Int))).map D.int = ns.map nD) (hb : Bd ns bs4) : ∃ left fg, exL (aE (.p (.list (L.map .int))) (cellsV c0 c1 c2 c3) d e f [2, 3, 4, 5, 6, 7]) [[]] (stL 7) = some (.next, aE1 (.p (.list (L.map .int))) (cellsV c0 c1 c2 c3) d e f left fg, [(permS [2, 3, 4, 5, 6, 7] ns).map nD]) := by
  have hb' : Bd ns [6, 5, 4, 3, 2, 1] := hb
  obtain ⟨n, ns', rfl, hn, hb2⟩ := bd_cons hb'
  obtain ⟨ρ1, w1, w2⟩ := line_body (c1 := .p (.list (L.map .int))) (c2 := cellsV c0 c1 c2 c3) (c3 := d) (c4 := e) (c5 := f) (left := [2, 3, 4, 5, 6, 7]) (line := []) (n := n) hn (by decide) (by decide) (.inl rfl) _ _ _ _ _ [stL 0, stL 1, stL 2, stL 3, stL 4, stL 5, stL 6] rfl rfl
  have hll : (([2, 3, 4, 5, 6, 7] : List Nat).eraseIdx n).length = 5 := by rw [List.length_eraseIdx_of_lt hn]; rfl
  obtain ⟨ρ', left', hP, w3⟩ := line_loop1 ns' (([2, 3, 4, 5, 6, 7] : List Nat).eraseIdx n) ([nD (([2, 3, 4, 5, 6, 7] : List Nat).getD n 0)]) (.p (nD n)) (by rw [hll]; exact hb2) (by rw [hll]; exact Nat.le_refl 6) _ _ _ _ _ [stL 0, stL 1, stL 2, stL 3, stL 4, stL 5, stL 6] rfl rfl (c1 := .p (.list (L.map .int))) (c2 := cellsV c0 c1 c2 c3) (c3 := d) (c4 := e) (c5 := f)
  obtain ⟨fg, rfl⟩ := hP
  refine ⟨left', fg, ?_⟩
  exact s_for (l := (n :: ns').map nD) (e_call (vs := [.p (.int c3), .p (.list (bs4.map nD))]) rfl rfl rfl (evs_c (fun _ _ h => nomatch h) rfl (evs_c (fun _ _ h => nomatch h) rfl rfl)) (Eq.trans (fig4 [] c3) (by rw [h]))) rfl (and3 rfl rfl (decide_eq_true (by rw [List.length_map, bd_len hb]; exact pos_lim' (by decide)))) (f_next w1 w2 w3)
end
theorem bd39a : (fnAt 39).bd = stL 0 :: stL 1 :: stL 2 :: stL 3 :: stL 4 :: stL 5 :: stL 6 :: stL 7 :: (fnAt 39).bd.drop 8 := rfl
theorem bd39b : (fnAt 39).bd.drop 8 = [stL 8, stL 9, stL 10, stL 11, stL 12, stL 13, stL 14, stL 15, stL 16, stL 17, stL 18, stL 19, stL 20, stL 21, stL 22, stL 23, stL 24, stL 25, stL 26, stL 27, stL 28, stL 29, stL 30, stL 31] := rfl
theorem tail39 {X : LP} (H : X.Ok) : ∃ σ' ρ'', body exL ((fnAt 39).bd.drop 8) (X.E 8) [X.lineD] = some (.ret (.p (.bool true)), ρ'', σ') := by
  obtain ⟨k, hk, x19⟩ := st19k H
  have y25 := st25 H (qu := List.replicate (k + 1) D.none)
  have y26 := st26 H (qu := List.replicate (k + 1) D.none)
  rw [worlds_eq H] at y26
  rw [bd39b]
  refine ⟨[X.lineD, [], List.replicate (k + 1) .none, X.bkE, X.worldsD], ?_⟩
  exact b_consX (st8 H) (b_consX (st9 H) (b_consX (st10 H) (b_consX (st11 H) (b_consX (st12 H) (b_consX (st13 H) (b_consX (st14 H) (b_consX (st15 H) (b_consX (st16 H) (b_consX (st17 H) (b_consX (st18 H) (b_consX x19 (b_consX (st20 H) (b_consX (st21 H (by omega)) (b_consX (st22 H) (b_consX (st23 H) (b_consX (st24 H) (b_consX y25 (b_consX y26 (b_consX (st27 H) (b_consX (st28 H) (b_consX (st29 H) (b_consX (st30 H) ⟨_, b_ret (st31 (by omega))⟩))))))))))))))))))))))
theorem gl (L : List Int) (hL : L.length ≤ 63) : gLaw [] [.p (.list (L.map .int))] = some (.p (.bool true)) := by
  obtain ⟨c0, c1, c2, c3, x1⟩ := st1 hL
  obtain ⟨ns1, b1, g1⟩ := fig_nat (b := bs1) (by decide) c0
  obtain ⟨ns2, b2, g2⟩ := fig_nat (b := bs2) (by decide) c1
  obtain ⟨ns3, b3, g3⟩ := fig_nat (b := bs3) (by decide) c2
  obtain ⟨ns4, b4, g4⟩ := fig_nat (b := bs4) (by decide) c3
  obtain ⟨t0, t1, t2, t3, t4, t5, n6, n7, n8, rfl, h0, h1, h2, h3, h4, h5, h6, h7, h8⟩ := drawn_of b1
  obtain ⟨f0, f1, f2, f3, f4, f5, f6, f7, f8, rfl, k0, k1, k2, k3, k4, k5, k6, k7, k8⟩ := defs_of b2
  obtain ⟨Z, q1, q2, Y, l1, l2, hdress⟩ := dress_of b3
  have hsh := shape_of (f1 := f1) (f2 := f2) (f4 := f4) (f5 := f5) (f7 := f7) (f8 := f8) k0 k3 k6 l1 l2
  obtain ⟨hs4, hs⟩ : ∃ s0 s1 s2 s3, seesS t0 t1 t2 t3 t4 t5 = [s0, s1, s2, s3] := by
    have := (sees_chk t0 h0 t1 h1 t2 h2 t3 h3 t4 h4 t5 h5).2
    match seesS t0 t1 t2 t3 t4 t5, this with
    | [a, b, c, d], _ => exact ⟨a, b, c, d, rfl⟩
  obtain ⟨s1, s2, s3, hs⟩ := hs
  have hperm : (permS [2, 3, 4, 5, 6, 7] ns4).Perm [2, 3, 4, 5, 6, 7] := permS_perm b4
  obtain ⟨left, fg, x7⟩ := st7 (L := L) (c0 := c0) (c1 := c1) (c2 := c2) (d := .p (.list ([t0, t1, t2, t3, t4, t5, n6, n7, n8].map nD))) (e := .p (.list (defsD (rowsOf f0 f1 f2 f3 f4 f5 f6 f7 f8 q1 q2)))) (f := .p (.list (dressD (rowsOf f0 f1 f2 f3 f4 f5 f6 f7 f8 q1 q2) Z))) g4 b4
  obtain ⟨log, kf, H⟩ := x_ok (L := L) (cells := cellsV c0 c1 c2 c3) (f := fg) (left := left) hsh Y h0 h1 h2 h3 h4 h5 h6 h7 h8 hs hperm
  have x4 := st4 (L := L) (c0 := c0) (c1 := c1) (c3 := c3) (d := .p (.list ([t0, t1, t2, t3, t4, t5, n6, n7, n8].map nD))) (e := .p (.list (defsD (rowsOf f0 f1 f2 f3 f4 f5 f6 f7 f8 q1 q2)))) g3
  rw [hdress (rowsOf f0 f1 f2 f3 f4 f5 f6 f7 f8 q1 q2) rfl rfl] at x4
  obtain ⟨σe, ρe, T⟩ := tail39 H
  have eE : (mkX L (cellsV c0 c1 c2 c3) fg t0 t1 t2 t3 t4 t5 n6 n7 n8 (rowsOf f0 f1 f2 f3 f4 f5 f6 f7 f8 q1 q2) Z hs4 s1 s2 s3 (permS [2, 3, 4, 5, 6, 7] ns4) left log kf).E 8 = aE1 (.p (.list (L.map .int))) (cellsV c0 c1 c2 c3) (.p (.list ([t0, t1, t2, t3, t4, t5, n6, n7, n8].map nD))) (.p (.list (defsD (rowsOf f0 f1 f2 f3 f4 f5 f6 f7 f8 q1 q2)))) (.p (.list (dressD (rowsOf f0 f1 f2 f3 f4 f5 f6 f7 f8 q1 q2) Z))) left fg := rfl
  rw [eE] at T
  refine run_PE (σ' := σe) (ρ := [("script", .p (.list (L.map .int)))]) rfl ?_
  show ∃ ρ', body exL (fnAt 39).bd _ [] = _
  rw [bd39a]
  exact b_consX st0 (b_consX x1 (b_consX (st2 g1) (b_consX (st3 g2 k0 k1 k2 k3 k4 k5 k6 k7 k8 (g1 := q1) (g2 := q2)) (b_consX x4 (b_consX st5 (b_consX st6 (b_consX x7 ⟨ρe, T⟩)))))))
end
end Mine
theorem PySem.Challenge.cw_xt0014_01_holds : PySem.Challenge.rw_xt0014_01.Holds := by
  exact Mine.gl_holds Mine.left Mine.gl
