import PyProof.Rows.All
import Wide.All
import OpenK.AllK
import Wide.FinOn
import Lean
import PySem.Challenge.RW_sh0075_01
open PySem PySem.W PyProof.Rows
set_option Elab.async false
set_option linter.all false
set_option maxRecDepth 100000
set_option genSizeOf false
set_option genInjectivity false
set_option genCtorIdx false
set_option bootstrap.genMatcherCode false
namespace Mine
section
set_option genCtorIdx true in
inductive D where
 | none
 | bool (b : Bool)
 | int (i : Int)
 | str (s : List Nat)
 | typ (n : String)
 | tup (l : List D)
 | lst (l : List D)
 | obj (c : Nat) (fs : List (Str × D))
 | ptr (i : Nat)
 | base (a : Nat)
 deriving Inhabited
set_option genCtorIdx true in
inductive SO where
 | dead
 | lst (l : List D)
 | inst (c : Nat) (fs : List (Str × D))
 | lock (l : List D)
 deriving Inhabited
noncomputable abbrev aa := List SO
noncomputable abbrev aj := List (Str × D)
set_option genCtorIdx true in
inductive Fl where
 | next
 | brk
 | ret (d : D)
 deriving Inhabited
noncomputable def ar (s : List Nat) : Bool := s.all (· < 128)
noncomputable abbrev S (x : String) : Str := Str.ofString x
structure aO where
 glob : Str → Option D
 fn : Str → List D → aa → Option (D × aa)
 gen : Str → List D → Option (List D)
 isGen : Str → Bool
 meth : Nat → Str → List D → List (Str × D) → aa → Option (D × aa)
 bmeth : Nat → Str → List D → Option D
 new : Str → List D → aa → Option (D × aa)
 attr : Nat → Str → Option D
 fld : Nat → Str → Bool
 tab : Nat → Option (List (List Nat × D))
noncomputable def aC (d : D) : Option Int := match d with | .int i => some i | _ => none
noncomputable def aV (d : D) : Option (List Nat) := match d with | .str i => some i | _ => none
noncomputable def cv (d : D) : Option Nat := match d with | .ptr i => some i | _ => none
noncomputable def di (d : D) : Option (List D) := match d with | .tup i => some i | _ => none
noncomputable def dz (d : D) : Option (List D) := match d with | .lst i => some i | _ => none
noncomputable def eu (d : D) : Option Nat := match d with | .base i => some i | _ => none
noncomputable def wV (d : D) : Option (Nat × List (Str × D)) := match d with | .obj c fs => some (c, fs) | _ => none
noncomputable def tC (d : D) : Option String := match d with | .typ i => some i | _ => none
noncomputable def isNone (d : D) : Bool := match d with | .none => true | _ => false
noncomputable def Bv (x : SO) : Option (List D) := match x with | .lst l => some l | _ => none
noncomputable def rE (x : SO) : Option (List D) := match x with | .lst l => some l | .lock l => some l | _ => none
noncomputable def xA (x : SO) : Option (Nat × List (Str × D)) := match x with | .inst c fs => some (c, fs) | _ => none
noncomputable def rD (x : SO) : Option (List D) := match x with | .lock l => some l | _ => none
noncomputable def lstAt (σ : aa) (i : Nat) : Option (List D) := (σ[i]?).bind Bv
noncomputable def nF (σ : aa) (i : Nat) : Option (Nat × List (Str × D)) := (σ[i]?).bind xA
noncomputable def aF (σ : aa) (d : D) : Option (List D) := (dz d).or ((cv d).bind fun i => (σ[i]?).bind rE)
noncomputable def fT (σ : aa) (d : D) : Option (List D) := (aF σ d).or (di d)
noncomputable def gd (b : Bool) : Option Unit := if b then some () else none
theorem aW {α : Type} {a : α} {P : Prop} (h : none = some a) : P := nomatch h
theorem eY {P : Prop} (h : false = true) : P := nomatch h
theorem pi (i : Int) : aC (.int i) = some i := rfl
theorem fS (s : List Nat) : aV (.str s) = some s := rfl
theorem oO (i : Nat) : cv (.ptr i) = some i := rfl
theorem Di (l : List D) : dz (.lst l) = some l := rfl
theorem wB (i : Nat) : dz (.ptr i) = none := rfl
theorem aH {d : D} {i : Int} (h : aC d = some i) : d = .int i := by cases d <;> first | exact congrArg _ (Option.some.inj h) | exact aW h
theorem aT {d : D} {i : List Nat} (h : aV d = some i) : d = .str i := by cases d <;> first | exact congrArg _ (Option.some.inj h) | exact aW h
theorem cB {d : D} {i : Nat} (h : cv d = some i) : d = .ptr i := by cases d <;> first | exact congrArg _ (Option.some.inj h) | exact aW h
theorem dM {d : D} {i : List D} (h : di d = some i) : d = .tup i := by cases d <;> first | exact congrArg _ (Option.some.inj h) | exact aW h
theorem ek {d : D} {i : List D} (h : dz d = some i) : d = .lst i := by cases d <;> first | exact congrArg _ (Option.some.inj h) | exact aW h
theorem eJ {d : D} {i : Nat} (h : eu d = some i) : d = .base i := by cases d <;> first | exact congrArg _ (Option.some.inj h) | exact aW h
theorem tB {d : D} {i : String} (h : tC d = some i) : d = .typ i := by cases d <;> first | exact congrArg _ (Option.some.inj h) | exact aW h
theorem zO {d : D} {c : Nat} {fs : List (Str × D)} (h : wV d = some (c, fs)) : d = .obj c fs := by cases d <;> first | exact aW h | skip; cases h; rfl
theorem bp {b : Bool} {u : Unit} (h : gd b = some u) : b = true := by cases b; exact aW h; rfl
theorem bE {α β : Type} {x : Option α} {f : α → Option β} {r : β} {P : Prop} (k : ∀ a, x = some a → f a = some r → P) (h : x.bind f = some r) : P := let ⟨a, h1, h2⟩ := Option.bind_eq_some_iff.mp h; k a h1 h2
theorem bP {α α' β : Type} {x : Option (α × α')} {f : α × α' → Option β} {r : β} {P : Prop} (k : ∀ a a', x = some (a, a') → f (a, a') = some r → P) (h : x.bind f = some r) : P := bE (fun (a, a') => k a a') h
theorem mE {α β : Type} {x : Option α} {f : α → β} {r : β} {P : Prop} (k : ∀ a, x = some a → f a = r → P) (h : x.map f = some r) : P := let ⟨a, h1, h2⟩ := Option.map_eq_some_iff.mp h; k a h1 h2
theorem mP {α α' β : Type} {x : Option (α × α')} {f : α × α' → β} {r : β} {P : Prop} (k : ∀ a a', x = some (a, a') → f (a, a') = r → P) (h : x.map f = some r) : P := mE (fun (a, a') => k a a') h
theorem oE {α : Type} {x y : Option α} {r : α} {P : Prop} (k : x = some r → P) (k' : y = some r → P) (h : x.or y = some r) : P := (Option.or_eq_some_iff.mp h).elim k fun h => k' h.2
theorem bY {σ : aa} {i : Nat} {l : List D} (h : lstAt σ i = some l) : σ[i]? = some (.lst l) := by
 revert h; refine bE fun so h1 h2 => ?_
 cases so <;> first | exact h1.trans (congrArg _ (congrArg _ (Option.some.inj h2))) | exact aW h2 | skip; cases h2; exact h1
theorem pj {σ : aa} {i c : Nat} {fs : List (Str × D)} (h : nF σ i = some (c, fs)) : σ[i]? = some (.inst c fs) := by
 revert h; refine bE fun so h1 h2 => ?_
 cases so <;> first | exact h1.trans (congrArg _ (congrArg _ (Option.some.inj h2))) | exact aW h2 | skip; cases h2; exact h1
inductive V where
 | const (c : Const)
 | name (x : Str) (p : Pos)
 | bin (l : Expr) (op : Operator) (r : Expr) (p : Pos)
 | neg (e : Expr)
 | nott (e : Expr)
 | ifx (t a b : Expr)
 | band (vs : List Expr)
 | bor (vs : List Expr)
 | cmp (l : Expr) (op : CmpOp) (r : Expr)
 | attr (v : Expr) (x : Str)
 | slice (v : Expr) (a b : Option Expr) (p : Pos)
 | rev (v c : Expr) (p : Pos)
 | sub (v i : Expr)
 | list (es : List Expr) (p : Pos)
 | tup (es : List Expr)
 | comp (elt target iter : Expr) (ifs : List Expr) (sc : Scope)
 | callN (x : Str) (as : List Expr)
 | callM (v : Expr) (m : Str) (l : Bool) (as : List Expr) (kws : List Keyword)
 | other
inductive jJ : Expr → V → Prop
 | const {c k p} : jJ (.Constant c k p) (.const c)
 | name {x p} : jJ (.Name x p) (.name x p)
 | bin {l op r p} : jJ (.BinOp l op r p) (.bin l op r p)
 | neg {e p} : jJ (.UnaryOp .USub e p) (.neg e)
 | nott {e p} : jJ (.UnaryOp .Not e p) (.nott e)
 | ifx {t a b p} : jJ (.IfExp t a b p) (.ifx t a b)
 | band {vs p} : jJ (.BoolOp .And vs p) (.band vs)
 | bor {vs p} : jJ (.BoolOp .Or vs p) (.bor vs)
 | cmp {l op r p} : jJ (.Compare l [op] [r] p) (.cmp l op r)
 | attr {v x p} : jJ (.Attribute v x p) (.attr v x)
 | slice {v a b q p} : jJ (.Subscript v (.Slice a b none q) p) (.slice v a b p)
 | rev {v c q p} : jJ (.Subscript v (.Slice none none (some c) q) p) (.rev v c p)
 | sub {v i p} : jJ (.Subscript v i p) (.sub v i)
 | list {es p} : jJ (.List es p) (.list es p)
 | tup {es k p} : jJ (.Tuple es k p) (.tup es)
 | comp {elt target iter ifs sc p} : jJ (.ListComp elt [⟨target, iter, ifs, 0⟩] sc p) (.comp elt target iter ifs sc)
 | callN {x q as p} : jJ (.Call (.Name x q) as [] p) (.callN x as)
 | callM {v m ap as kws p} : jJ (.Call (.Attribute v m ap) as kws p) (.callM v m (ap.endLine == p.line) as kws)
 | other {e} : jJ e .other
noncomputable def A6 (v i : Expr) (p : Pos) : V := match i with
 | .Slice a b c _ => match c, a, b with
  | none, a, b => .slice v a b p
  | some c, none, none => .rev v c p
  | some _, _, _ => .other
 | _ => .sub v i
noncomputable def A8 (f : Expr) (as : List Expr) (kws : List Keyword) (p : Pos) : V := by
 cases f with
 | Name x => exact if kws.isEmpty then .callN x as else .other
 | Attribute v m ap => exact .callM v m (ap.endLine == p.line) as kws
 | _ => exact .other
noncomputable def A7 (elt : Expr) (gens : List Comprehension) (sc : Scope) : V := match gens with
 | [⟨target, iter, ifs, a⟩] => if a == 0 then .comp elt target iter ifs sc else .other
 | _ => .other
noncomputable def view (e : Expr) : V := match e with
 | .Constant c _ _ => .const c
 | .Name x p => .name x p
 | .BinOp l op r p => .bin l op r p
 | .UnaryOp op e _ => match op with
  | .Not => .nott e
  | .USub => .neg e
  | _ => .other
 | .IfExp t a b _ => .ifx t a b
 | .BoolOp op vs _ => match op with
  | .And => .band vs
  | .Or => .bor vs
 | .Compare l ops rs _ => match ops, rs with
  | [op], [r] => .cmp l op r
  | _, _ => .other
 | .Attribute v x _ => .attr v x
 | .Subscript v i p => A6 v i p
 | .List es p => .list es p
 | .Tuple es _ _ => .tup es
 | .ListComp elt gens sc _ => A7 elt gens sc
 | .Call f as kws p => A8 f as kws p
 | _ => .other
theorem dD (e : Expr) : jJ e (view e) := by
 cases e <;> try exact .other
 all_goals first | exact .const | exact .name | exact .bin | exact .ifx | exact .attr | exact .list | exact .tup | skip
 ·rename_i op vs p
  cases op
  ·exact .band
  ·exact .bor
 ·rename_i op e p
  cases op <;> first | exact .nott | exact .neg | exact .other
 ·rename_i elt gens sc p
  rcases gens with _ | ⟨⟨target, iter, ifs, a⟩, _ | ⟨g2, gs⟩⟩ <;> try exact .other
  by_cases h : a = 0
  ·subst h; exact .comp
  ·show jJ _ (if a == 0 then _ else V.other)
   rw [if_neg (by simpa using h)]
   exact .other
 ·rename_i l ops rs p
  rcases ops with _ | ⟨op, _ | ⟨a, as⟩⟩ <;> rcases rs with _ | ⟨r, _ | ⟨b, bs⟩⟩ <;> first | exact .cmp | exact .other
 ·rename_i f as kws p
  cases f <;> first | exact .callM | exact .other | skip
  cases kws <;> first | exact .callN | exact .other
 ·rename_i v i p
  cases i <;> first | exact .sub | skip
  rename_i a b c q
  cases c
  ·exact .slice
  ·cases a <;> cases b <;> first | exact .rev | exact .other
end
section
noncomputable def fE {α : Type} (f : D → Option α) : List D → Option (List α)
 | [] => some []
 | d :: r => (f d).bind fun x => (fE f r).map fun y => x :: y
noncomputable def Fb (d : D) : Option PyData := ((aC d).map PyData.int).or ((aV d).map fun s => .str ⟨s.toArray⟩)
noncomputable def rP : Nat → D → Option PyData
 | 0, d => Fb d
 | n + 1, d => (Fb d).or (((di d).bind fun l => (fE (rP n) l).map PyData.tuple).or ((dz d).bind fun l => (fE (rP n) l).map PyData.list))
noncomputable def DM (x y : D) : Option Bool := (rP 4 x).bind fun p => (rP 4 y).map fun q => PyData.eqv p q
noncomputable def cC : Nat := 16777216
noncomputable def small (i : Int) : Bool := decide (-4611686018427387904 < i ∧ i < 4611686018427387904)
noncomputable def j7 (op : Operator) : Bool := match op with | .Add => true | _ => false
noncomputable def sB (op : Operator) : Bool := match op with | .Mult => true | _ => false
noncomputable def fh (op : Operator) (a b : Int) : Option Int := match op with
 | .Add => some (a + b)
 | .Sub => some (a - b)
 | .Mult => (gd (small a && small b)).map fun _ => a * b
 | .Mod => (gd (b != 0)).map fun _ => a.fmod b
 | .FloorDiv => (gd (b != 0 && decide (b.natAbs < 1073741824))).map fun _ => a.fdiv b
 | .RShift => (gd (decide (0 ≤ b))).map fun _ => a.fdiv (2 ^ b.toNat)
 | .BitAnd => some (Builtin.bitAnd a b)
 | _ => none
noncomputable def nV (op : CmpOp) (a b : Int) : Option Bool := match op with
 | .Eq => some (a == b)
 | .NotEq => some (a != b)
 | .Lt => some (decide (a < b))
 | .GtE => some (decide (b ≤ a))
 | .LtE => some (decide (a ≤ b))
 | .Gt => some (decide (b < a))
 | _ => none
noncomputable def jz (l : List D) : Option D := (gd (l.length == 1)).bind fun _ => l[0]?
noncomputable def fM (a b : D) : Option D := (aV a).bind fun x => (aV b).bind fun y => (gd (decide (x.length + y.length ≤ cC))).map fun _ => .str (x ++ y)
noncomputable def tF (σ : aa) (a b : D) : Option D := (aF σ a).bind fun l => (aF σ b).bind fun r => (gd (decide (l.length + r.length ≤ cC))).map fun _ => .lst (l ++ r)
noncomputable def kH (σ : aa) (a b : D) : Option D := (aF σ a).bind fun l => (jz l).bind fun d => (aC b).bind fun y => (gd (decide (0 ≤ y ∧ y < 16777216))).map fun _ => .lst (List.replicate y.toNat d)
noncomputable def aB (op : Operator) (σ : aa) (a b : D) : Option D :=
 ((aC a).bind fun x => (aC b).bind fun y => (fh op x y).map .int).or
  (((gd (j7 op)).bind fun _ => fM a b).or (((gd (j7 op)).bind fun _ => tF σ a b).or ((gd (sB op)).bind fun _ => kH σ a b)))
noncomputable def wE (x y : List Nat) : Option Bool := (gd (x.length == 1)).bind fun _ => (x[0]?).map fun c => y.contains c
noncomputable def dH (l : List D) : Option (List Int) := fE aC l
noncomputable def eqL (l r : List D) : Option Bool := if l.isEmpty != r.isEmpty then some false else DM (.lst l) (.lst r)
inductive CK where
 | is (n : Bool)
 | isin (n : Bool)
 | eq (n : Bool)
 | ord
noncomputable def Gw (op : CmpOp) : CK := match op with
 | .Is => .is false
 | .IsNot => .is true
 | .In => .isin false
 | .NotIn => .isin true
 | .Eq => .eq false
 | .NotEq => .eq true
 | _ => .ord
noncomputable def we (σ : aa) (d : D) : Bool := (aC d).isSome || (aV d).isSome || (dz d).isSome || (cv d).isSome
noncomputable def Gb (σ : aa) (a b : D) : Option Bool := ((tC a).bind fun x => (tC b).map fun y => x == y).or ((gd (isNone b)).bind fun _ => if isNone a then some true else (gd (we σ a)).map fun _ => false)
noncomputable def GP (o : aO) (n : Bool) (a b : D) : Option Bool := ((gd !n).bind fun _ => (aC a).bind fun x => (di b).bind fun l => (dH l).map fun ns => ns.any (· == x)).or
 (((aV a).bind fun x => (aV b).bind fun y => (wE x y).map (n != ·)).or ((gd n).bind fun _ => (aV a).bind fun x => (eu b).bind fun t => (o.tab t).map fun r => !(r.lookup x).isSome))
noncomputable def uc (σ : aa) (a b : D) : Option Bool := ((aC a).bind fun x => (aC b).map fun y => x == y).or (((aV a).bind fun x => (aV b).map fun y => x == y).or
 (((di a).bind fun x => (di b).bind fun y => DM (.tup x) (.tup y)).or ((aF σ a).bind fun l => (aF σ b).bind fun r => eqL l r)))
noncomputable def cmp (op : CmpOp) (o : aO) (σ : aa) (a b : D) : Option Bool := match Gw op with
 | .is n => (Gb σ a b).map (n != ·)
 | .isin n => GP o n a b
 | .eq n => (uc σ a b).map (n != ·)
 | .ord => (aC a).bind fun x => (aC b).bind fun y => nV op x y
noncomputable def oj (d : D) : Option Bool := match d with
 | .none => some false
 | .bool b => some b
 | .int i => some (i != 0)
 | _ => none
noncomputable def sI (s : List Nat) : Option Int := (gd (decide (s.length ≤ 640))).bind fun _ => PySem.intText? ⟨s.toArray⟩
noncomputable def ah (i : Int) : List Nat := (Str.ofString (toString i)).cps.toList
noncomputable def kx (l : List D) : Option (List Str) := fE (fun d => (aV d).map fun x => ⟨x.toArray⟩) l
noncomputable def mc (sep : List Nat) (l : List D) : Option (List Nat) := (kx l).bind fun ys => (gd (decide ((ys.map (·.length)).sum + ys.length * sep.length ≤ cC))).map fun _ => (Str.join ⟨sep.toArray⟩ ys).cps.toList
noncomputable def cY (c : Nat) : Nat := if 65 ≤ c ∧ c ≤ 90 then c + 32 else if 97 ≤ c ∧ c ≤ 122 then c - 32 else c
noncomputable def bH (c : Nat) : Nat := lo1 c
noncomputable def Bc (σ : aa) (d : D) : Option String := ((aV d).map fun _ => "str").or (((dz d).map fun _ => "list").or ((cv d).bind fun i => (lstAt σ i).map fun _ => "list"))
set_option genCtorIdx true in
inductive BF where
 | len | tuple | max | repr | str | int | sum | divmod | type
noncomputable def bfs : List (Str × BF) := [(S "len", .len), (S "tuple", .tuple), (S "max", .max), (S "repr", .repr), (S "str", .str), (S "int", .int), (S "sum", .sum), (S "divmod", .divmod), (S "type", .type)]
noncomputable def wQ (f : BF) (σ : aa) (d : D) : Option D := match f with
 | .len => ((aV d).bind fun s => (gd (decide (s.length ≤ cC))).map fun _ => D.int s.length).or ((fT σ d).bind fun l => (gd (decide (l.length ≤ cC))).map fun _ => D.int l.length)
 | .tuple => (aF σ d).bind fun l => (gd (decide (l.length ≤ 16384))).map fun _ => D.tup l
 | .repr => match d with
  | .bool b => some (.str (S (if b then "True" else "False")).cps.toList)
  | _ => none
 | .str => (aC d).bind fun i => (gd (decide (0 ≤ i ∧ i < 10000000000))).map fun _ => .str (ah i)
 | .int => (aV d).bind fun s => (sI s).map .int
 | .sum => (aF σ d).bind fun l => (dH l).map fun ns => .int ns.sum
 | .type => (Bc σ d).map .typ
 | _ => none
noncomputable def D4 (f : BF) (a b : Int) : Option D := match f with
 | .max => some (.int (if a < b then b else a))
 | .divmod => (gd (b != 0 && decide (b.natAbs < 1073741824))).map fun _ => .tup [.int (a.fdiv b), .int (a.fmod b)]
 | _ => none
noncomputable def ak (f : Str) (σ : aa) (as : List D) : Option D := (bfs.lookup f).bind fun b => match as with
 | [d] => wQ b σ d
 | [x, y] => (aC x).bind fun x => (aC y).bind fun y => D4 b x y
 | _ => none
noncomputable def iP (i : Int) : Bool := decide (-9223372036854775808 ≤ i ∧ i < 9223372036854775808)
noncomputable def jf (σ : aa) (d : D) (i : Int) : Option D := (fT σ d).bind fun l => (gd (iP i)).bind fun _ => (seqIndex? i l.length).bind fun k => l[k]?
noncomputable def cut {α : Type} (l : List α) (a b : Option Int) : List α := (l.drop (a.elim 0 (clipAt l.length))).take (b.elim l.length (clipAt l.length) - a.elim 0 (clipAt l.length))
noncomputable def cI (σ : aa) (d : D) (a b : Option Int) : Option D :=
 ((aV d).bind fun s => (gd (decide (s.length ≤ cC))).map fun _ => D.str (Txt.slice ⟨s.toArray⟩ a b).cps.toList).or
  (((aF σ d).bind fun l => (gd (decide (l.length ≤ cC))).map fun _ => D.lst (cut l a b)).or
   ((di d).bind fun l => (gd a.isNone).bind fun _ => b.bind fun b => (gd (decide (0 ≤ b ∧ b < l.length ∧ l.length ≤ cC))).map fun _ => .tup (l.take b.toNat)))
noncomputable def cq : aj → Str → D → aj
 | [], x, d => [(x, d)]
 | (y, e) :: r, x, d => if y == x then (x, d) :: r else (y, e) :: cq r x d
structure Fn where
 sc : List (Str × NameKind)
 mu : List (Nat × Nat) := []
 fz : Bool := true
 own : Bool := true
noncomputable def Fn.isMu (f : Fn) (p : Pos) : Bool := f.mu.any fun q => q.1 == p.line && q.2 == p.col
noncomputable def Ga (k : NameKind) : Bool := match k with | .globalImplicit => true | _ => false
noncomputable def F9 (k : NameKind) : Bool := match k with | .local => true | .cell => true | .free => true | _ => false
noncomputable def Dt (own : Bool) (k : NameKind) : Bool := match k with | .local => true | .cell => own | _ => false
noncomputable def Fn.isG (f : Fn) (x : Str) : Bool := (f.sc.lookup x).any Ga
noncomputable def Fn.isL (f : Fn) (x : Str) : Bool := (f.sc.lookup x).any F9
noncomputable def Fn.canSet (f : Fn) (x : Str) : Bool := (f.sc.lookup x).any (Dt f.own)
noncomputable def aJ (f : Fn) (p : Pos) (σ : aa) (l : List D) : D × aa := if f.isMu p then (.ptr σ.length, σ ++ [.lst l]) else (.lst l, σ)
noncomputable def jC (f : Fn) (p : Pos) (σ : aa) (d : D) : D × aa := match d with
 | .lst l => aJ f p σ l
 | d => (d, σ)
noncomputable def bx (a b : Int) : List D := (List.range (b - a).toNat).map fun k => .int (a + (k : Nat))
noncomputable def bM (a b : Int) : Bool := decide (-16000000 ≤ a ∧ a ≤ 16000000 ∧ -16000000 ≤ b ∧ b ≤ 16000000 ∧ b - a ≤ 16000000)
end
section
set_option genCtorIdx true in
inductive MId where
 | lower | swapcase | join | split | index | append | pop | get
noncomputable def mStr : List (Str × MId) := [(S "lower", .lower), (S "swapcase", .swapcase), (S "join", .join), (S "split", .split)]
noncomputable def mLst : List (Str × MId) := [(S "append", .append), (S "pop", .pop)]
noncomputable def ja (o : aO) (σ : aa) (d : D) (m : Str) : Option MId :=
 ((aV d).bind fun _ => mStr.lookup m).or (((dz d).bind fun _ => (gd (m == S "index")).map fun _ => MId.index).or
  (((cv d).bind fun i => (lstAt σ i).bind fun _ => mLst.lookup m).or ((eu d).bind fun t => (o.tab t).bind fun _ => (gd (m == S "get")).map fun _ => MId.get)))
noncomputable def nk (as : List D) : Option D := match as with | [x] => some x | _ => none
noncomputable def Be (as : List D) : Option (D × D) := match as with | [x, y] => some (x, y) | _ => none
noncomputable def aq (o : aO) (m : MId) (σ : aa) (d : D) (as : List D) : Option (D × aa) := match m with
 | .lower => (gd as.isEmpty).bind fun _ => (aV d).bind fun s => (gd (decide (s.length ≤ 1000))).map fun _ => (.str (s.map bH), σ)
 | .swapcase => (gd as.isEmpty).bind fun _ => (aV d).bind fun s => (gd (decide (s.length ≤ 1000))).map fun _ => (.str (s.map cY), σ)
 | .join => (nk as).bind fun x => (aV d).bind fun s => (aF σ x).bind fun l => (mc s l).map fun r => (.str r, σ)
 | .split => (nk as).bind fun x => (aV d).bind fun s => (aV x).bind fun y => (gd (y.length == 1 && decide (s.length + 2 ≤ cC))).map fun _ => (.lst ((Txt.split ⟨s.toArray⟩ ⟨y.toArray⟩).map fun x => .str x.cps.toList), σ)
 | .pop => (gd as.isEmpty).bind fun _ => (cv d).bind fun i => (lstAt σ i).bind fun l => (gd (decide (l.length ≤ cC))).bind fun _ => l.getLast?.map fun x => (x, σ.set i (.lst l.dropLast))
 | .append => (nk as).bind fun x => (cv d).bind fun i => (lstAt σ i).bind fun l => (gd (decide (l.length ≤ cC))).map fun _ => (.none, σ.set i (.lst (l ++ [x])))
 | .index => (nk as).bind fun x => (dz d).bind fun l => (aC x).bind fun x => (dH l).bind fun ns => (gd (ns.contains x && decide (ns.length ≤ 1000) && ns.all small)).map fun _ => (.int (ns.idxOf x : Nat), σ)
 | .get => (Be as).bind fun (x, y) => (eu d).bind fun t => (aV x).bind fun k => (o.tab t).map fun r => ((r.lookup k).getD y, σ)
noncomputable def setF (fs : List (Str × D)) (x : Str) (d : D) : List (Str × D) := if (fs.lookup x).isSome then fs.map fun p => if p.1 == x then (x, d) else p else fs ++ [(x, d)]
noncomputable def nD (σ : aa) (d : D) : Option (Nat × List (Str × D)) := (wV d).or ((cv d).bind fun i => nF σ i)
noncomputable def Gv (σ : aa) (d : D) (m : Str) : Option Nat := (nD σ d).bind fun (c, fs) => (gd (fs.all fun p => !(p.1 == m))).map fun _ => c
noncomputable def td (c : Const) : Option Bool := match c with
 | .bool b => some b
 | _ => none
noncomputable def pD (e : Expr) : Option Const := by cases e with | Constant c => exact some c | _ => exact none
noncomputable def GO (k : Keyword) : Option (Str × D) := k.arg.bind fun x => ((pD k.value).bind td).map fun b => (x, .bool b)
noncomputable def pd (ks : List Keyword) : Option (List (Str × D)) := match ks with
 | [] => some []
 | [k] => (GO k).map fun p => [p]
 | _ => none
noncomputable def mj (o : aO) (σ : aa) (d : D) (x : Str) : Option D := ((nD σ d).bind fun (c, fs) => (gd (o.fld c x)).bind fun _ => fs.lookup x).or ((eu d).bind fun a => o.attr a x)
inductive Tg where
 | name (x : Str)
 | tup (es : List Expr)
 | slice (v a b : Expr)
 | sub (v i : Expr)
 | attr (v : Expr) (x : Str)
 | other
noncomputable def G7 (v i : Expr) : Tg := match i with
 | .Slice a b c _ => match a, b, c with
  | some a, some b, none => .slice v a b
  | _, _, _ => .other
 | _ => .sub v i
noncomputable def qO (e : Expr) : Tg := by
 cases e with
 | Name x => exact .name x
 | Tuple es => exact .tup es
 | Subscript v i => exact G7 v i
 | Attribute v x => exact .attr v x
 | _ => exact .other
inductive zS : Expr → Tg → Prop
 | name {x p} : zS (.Name x p) (.name x)
 | tup {es k p} : zS (.Tuple es k p) (.tup es)
 | slice {v a b q p} : zS (.Subscript v (.Slice (some a) (some b) none q) p) (.slice v a b)
 | sub {v i p} : zS (.Subscript v i p) (.sub v i)
 | attr {v x p} : zS (.Attribute v x p) (.attr v x)
 | other {e} : zS e .other
theorem kr (e : Expr) : zS e (qO e) := by
 cases e <;> try exact .other
 all_goals first | exact .name | exact .tup | exact .attr | skip
 rename_i v i p
 cases i <;> first | exact .sub | skip
 rename_i a b c q
 cases a <;> cases b <;> cases c <;> first | exact .slice | exact .other
noncomputable def kG (e : Expr) : Option Str := match qO e with | .name x => some x | _ => none
noncomputable def D1 (f : Fn) (e : Expr) (d : D) (ρ : aj) : Option aj := (kG e).bind fun x => (gd (f.canSet x)).map fun _ => cq ρ x d
noncomputable def ej (f : Fn) : List Expr → List D → aj → Option aj
 | [], [], ρ => some ρ
 | e :: es, d :: ds, ρ => (D1 f e d ρ).bind fun ρ' => ej f es ds ρ'
 | _, _, _ => none
noncomputable def ct (f : Fn) (e : Expr) (d : D) (ρ : aj) : Option aj := match qO e with
 | .name x => (gd (f.canSet x)).map fun _ => cq ρ x d
 | .tup es => ((di d).or (dz d)).bind fun l => ej f es l ρ
 | _ => none
noncomputable def nL (σ : aa) (d : D) : D × aa := match (cv d).bind fun i => (lstAt σ i).map fun l => (i, l) with
 | some (i, l) => (.lst l, σ.set i .dead)
 | none => (d, σ)
noncomputable def qo : List D → aa → List D × aa
 | [], σ => ([], σ)
 | d :: r, σ => ((nL σ d).1 :: (qo r (nL σ d).2).1, (qo r (nL σ d).2).2)
noncomputable def frz (σ : aa) (d : D) : D × aa := match di d with
 | some l => (.tup (qo l σ).1, (qo l σ).2)
 | none => nL σ d
noncomputable def pb (σ : aa) (d : D) : Option (Option Nat × List D × aa) :=
 ((cv d).bind fun i => (lstAt σ i).map fun l => (some i, l, σ.set i (.lock l))).or
  (((dz d).or ((di d).or ((aV d).map fun s => s.map fun c => .str [c]))).map fun l => (none, l, σ))
noncomputable def bL (σ : aa) (lk : Option Nat) : Option aa := match lk with
 | none => some σ
 | some i => (σ[i]?).bind fun x => (rD x).map fun l => σ.set i (.lst l)
set_option genCtorIdx true in
inductive Ty where
 | d | b | s
noncomputable abbrev Ty.el (t : Ty) : Type := match t with | .d => D | .b => Bool | .s => D × aa
inductive T (α : Type) where
 | ret (a : α)
 | fail
 | look (t : Ty) (o : Option t.el) (k : t.el → T α)
 | ask (b : Bool) (x y : T α)
namespace T
variable {α β : Type}
noncomputable def run : T α → Option α
 | .ret a => some a
 | .fail => none
 | .look _ o k => o.bind fun a => (k a).run
 | .ask b x y => cond b x.run y.run
noncomputable def bind : T α → (α → T β) → T β
 | .ret a, f => f a
 | .fail, _ => .fail
 | .look t o k, f => .look t o fun a => (k a).bind f
 | .ask b x y, f => .ask b (x.bind f) (y.bind f)
noncomputable def map (x : T α) (f : α → β) : T β := x.bind fun a => .ret (f a)
noncomputable def of (o : Option α) : T α := o.elim .fail .ret
noncomputable def lb (o : Option β) (k : β → T α) : T α := o.elim .fail k
noncomputable def ll (o : Option (List D)) (k : List D → T α) : T α := .look .d (o.map D.lst) fun d => lb (dz d) k
theorem run_bind : ∀ (x : T α) (f : α → T β), (x.bind f).run = x.run.bind fun a => (f a).run
 | .ret _, _ => rfl
 | .fail, _ => rfl
 | .look t o k, f => by cases o <;> first | rfl | exact run_bind (k _) f
 | .ask b x y, f => by cases b; exact run_bind y f; exact run_bind x f
end T
@[elab_as_elim] theorem r2 {α β : Type} {P : α → β → Prop} {a x : α} {b y : β} (h : some (a, b) = some (x, y)) (k : P a b) : P x y := by cases h; exact k
@[elab_as_elim] theorem r3 {α β γ : Type} {P : α → β → γ → Prop} {a x : α} {b y : β} {c z : γ} (h : some (a, b, c) = some (x, y, z)) (k : P a b c) : P x y z := by cases h; exact k
@[elab_as_elim] theorem ox_ {α : Type} {P : α → Prop} {a x : α} (h : some a = some x) (k : P a) : P x := Option.some.inj h ▸ k
@[elab_as_elim] theorem p2 {α β : Type} {P : α → β → Prop} {a x : α} {b y : β} (h : (a, b) = (x, y)) (k : P a b) : P x y := by cases h; exact k
@[elab_as_elim] theorem q1_ {α : Type} {P : α → Prop} {a x : α} (h : a = x) (k : P a) : P x := h ▸ k
@[elab_as_elim] theorem q2_ {α : Type} {P : α → Prop} {a x : α} (h : x = a) (k : P a) : P x := h ▸ k
theorem tE {α β : Type} {x : T α} {f : α → T β} {r : β} {P : Prop} (k : ∀ a, x.run = some a → (f a).run = some r → P) (h : (x.bind f).run = some r) : P := bE k (by rw [← T.run_bind]; exact h)
theorem tP {α α' β : Type} {x : T (α × α')} {f : α × α' → T β} {r : β} {P : Prop} (k : ∀ a a', x.run = some (a, a') → (f (a, a')).run = some r → P) (h : (x.bind f).run = some r) : P := tE (fun (a, a') => k a a') h
theorem tT {α α' α'' β : Type} {x : T (α × α' × α'')} {f : α × α' × α'' → T β} {r : β} {P : Prop} (k : ∀ a a' a'', x.run = some (a, a', a'') → (f (a, a', a'')).run = some r → P) (h : (x.bind f).run = some r) : P := tE (fun (a, a', a'') => k a a' a'') h
theorem GK {α β : Type} {x : T α} {f : α → β} {r : β} {P : Prop} (k : ∀ a, x.run = some a → f a = r → P) (h : (x.map f).run = some r) : P := tE (f := fun a => .ret (f a)) (fun a h1 h2 => k a h1 (Option.some.inj h2)) h
theorem tK {α α' β : Type} {x : T (α × α')} {f : α × α' → β} {r : β} {P : Prop} (k : ∀ a a', x.run = some (a, a') → f (a, a') = r → P) (h : (x.map f).run = some r) : P := GK (fun (a, a') => k a a') h
theorem lE {α β : Type} {o : Option β} {f : β → T α} {r : α} {P : Prop} (k : ∀ a, o = some a → (f a).run = some r → P) (h : (T.lb o f).run = some r) : P := by
 cases o with
 | none => exact aW h
 | some a => exact k a rfl h
theorem lP {α β β' : Type} {o : Option (β × β')} {f : β × β' → T α} {r : α} {P : Prop} (k : ∀ a a', o = some (a, a') → (f (a, a')).run = some r → P) (h : (T.lb o f).run = some r) : P := lE (fun (a, a') => k a a') h
theorem Hu {α : Type} {o : Option (List D)} {f : List D → T α} {r : α} {P : Prop} (k : ∀ a, o = some a → (f a).run = some r → P) (h : (T.ll o f).run = some r) : P := by
 cases o with
 | none => exact aW h
 | some a => exact k a rfl h
theorem Hn {α : Type} {o : Option α} {r : α} (h : (T.of o).run = some r) : o = some r := by cases o <;> first | exact aW h | exact h
theorem sE {o : Option (D × aa)} {r : D × aa} (h : (T.look .s o .ret).run = some r) : o = some r := by cases o <;> exact h
noncomputable abbrev cy := Expr → aj → aa → T (D × aa)
noncomputable abbrev fN := Expr → aj → aa → T (Bool × aa)
noncomputable def bB (ev : cy) : List Expr → aj → aa → T (List D × aa)
 | [], _, σ => .ret ([], σ)
 | e :: es, ρ, σ => (ev e ρ σ).bind fun (d, σ₁) => (bB ev es ρ σ₁).map fun (ds, σ₂) => (d :: ds, σ₂)
noncomputable def om (tr : fN) (ifs : List Expr) (ρ : aj) (σ : aa) : T (Bool × aa) := match ifs with
 | [] => .ret (true, σ)
 | [c] => tr c ρ σ
 | _ => .fail
noncomputable def fk (f : Fn) (ev : cy) (tr : fN) (target elt : Expr) (ifs : List Expr) (ρ : aj) : List D → aa → T (List D × aa)
 | [], σ => .ret ([], σ)
 | d :: ds, σ => .lb (ct f target d ρ) fun ρ₁ => (om tr ifs ρ₁ σ).bind fun (c, σ₁) =>
  .ask c ((ev elt ρ₁ σ₁).bind fun (x, σ₂) => (fk f ev tr target elt ifs ρ ds σ₂).map fun (xs, σ₃) => (x :: xs, σ₃)) (fk f ev tr target elt ifs ρ ds σ₁)
noncomputable def zP (ev : cy) : List Expr → aj → aa → T (D × aa)
 | [], _, _ => .fail
 | e :: es, ρ, σ => (ev e ρ σ).bind fun (d, σ₁) => if es.isEmpty then .ret (d, σ₁) else .look .b (oj d) fun c => .ask c (zP ev es ρ σ₁) (.ret (d, σ₁))
noncomputable def tD (tr : fN) (s : Bool) : List Expr → aj → aa → T (Bool × aa)
 | [], _, σ => .ret (s, σ)
 | e :: es, ρ, σ => (tr e ρ σ).bind fun (c, σ₁) => .ask (c == s) (tD tr s es ρ σ₁) (.ret (c, σ₁))
end
section
noncomputable def iC (f : Fn) (names : List (Str × NameKind)) (p : Str × NameKind) : Bool := match p.2 with
 | .local => names.lookup p.1 == some .local
 | .free => f.sc.lookup p.1 == some .cell && names.lookup p.1 == some .free
 | .cell => false
 | _ => true
noncomputable def jm (f : Fn) (sc : Scope) : Bool := sc.kind == .function && sc.names.all (iC f sc.names)
noncomputable def ca (f : Fn) (sc : Scope) : Fn := { f with sc := sc.names, own := false }
noncomputable def iB (sc : Scope) (ρ : aj) : aj := ρ.filter fun p => !(sc.names.lookup p.1 == some .local)
noncomputable def jS (as : List D) : Option (Int × Int) := match as with
 | [d] => (aC d).map fun b => (0, b)
 | [c, d] => (aC c).bind fun a => (aC d).map fun b => (a, b)
 | _ => none
noncomputable def sA (o : aO) (f : Fn) (ev : cy) (x : Str) (as : List Expr) (ρ : aj) (σ : aa) (alt : T (Option Nat × List D × aa)) : T (Option Nat × List D × aa) :=
 if f.isG x && x == S "range" then (bB ev as ρ σ).bind fun (ds, σ₁) => .lb (jS ds) fun (a, b) => .ask (bM a b) (.ret (none, bx a b, σ₁)) .fail
 else if f.isG x && o.isGen x then (bB ev as ρ σ).bind fun (ds, σ₁) => .lb (o.gen x ds) fun l => .ret (none, l, σ₁)
 else alt
noncomputable def bJ (o : aO) (f : Fn) (ev : cy) (e : Expr) (ρ : aj) (σ : aa) : T (Option Nat × List D × aa) :=
 let alt := (ev e ρ σ).bind fun (d, σ₁) => .of (pb σ₁ d)
 match view e with
 | .callN x as => sA o f ev x as ρ σ alt
 | _ => alt
noncomputable def xN (v : V) : Bool := match v with
 | .const _ => true
 | .name .. => true
 | .callN .. => true
 | .callM .. => true
 | .sub .. => true
 | .bin .. => true
 | _ => false
noncomputable def jt (v : V) : Bool := match v with
 | .const _ => true
 | .name .. => true
 | .attr .. => true
 | .sub .. => true
 | .comp .. => true
 | _ => false
noncomputable def ph (v : V) : Bool := match v with
 | .callN .. => true
 | .callM .. => true
 | _ => false
noncomputable def ta (c : Const) : Option D := match c with
 | .none => some .none
 | .bool b => some (.bool b)
 | .int i => some (.int i)
 | .str s => (gd (ar s.cps.toList)).map fun _ => .str s.cps.toList
 | _ => none
noncomputable def lK (ev : cy) (ρ : aj) (σ : aa) (x : Option Expr) : T (Option Int × aa) := match x with
 | none => .ret (none, σ)
 | some a => (ev a ρ σ).bind fun (d, σ₂) => .lb (aC d) fun i => .ret (some i, σ₂)
noncomputable def gT {α : Type} (b : Bool) (k : T α) : T α := .ask b k .fail
theorem gE {α : Type} {b : Bool} {k : T α} {r : α} {P : Prop} (kk : ∀ u : Unit, gd b = some u → k.run = some r → P) (h : (gT b k).run = some r) : P := by
 cases b with
 | false => exact aW h
 | true => exact kk () rfl h
noncomputable def jX (f : Fn) (ev : cy) (as : List Expr) (ρ : aj) (σ : aa) : T (D × aa) := .lb (gd (as.length == 1)) fun _ => .lb as[0]? fun e => match view e with
 | .callN y bs => .lb (gd (f.isG y && y == S "range")) fun _ => (bB ev bs ρ σ).bind fun (ds, σ₁) => .lb (nk ds) fun d => .lb (aC d) fun b => gT (bM 0 b) (.ret (.lst (bx 0 b), σ₁))
 | _ => .fail
noncomputable def callN (o : aO) (x : Str) (ds : List D) (σ : aa) : T (D × aa) := if (bfs.lookup x).isSome then .look .d (ak x σ ds) fun d => .ret (d, σ) else .look .s ((o.new x ds σ).or (o.fn x ds σ)) .ret
noncomputable def kZ (o : aO) (ev : cy) (mi : Option MId) (d : D) (m : Str) (as : List Expr) (kws : List Keyword) (ρ : aj) (σ : aa) : T (D × aa) :=
 match mi with
 | some id => .lb (gd kws.isEmpty) fun _ => (bB ev as ρ σ).bind fun (ds, σ₂) => .look .s (aq o id σ₂ d ds) .ret
 | none => match eu d with
  | some t => .lb (gd kws.isEmpty) fun _ => (bB ev as ρ σ).bind fun (ds, σ₂) => .look .d (o.bmeth t m ds) fun r => .ret (r, σ₂)
  | none => .lb (Gv σ d m) fun c => (bB ev as ρ σ).bind fun (ds, σ₂) => .lb (pd kws) fun ks => .look .s (o.meth c m (d :: ds) ks σ₂) .ret
noncomputable def callM (o : aO) (ev : cy) (d : D) (m : Str) (as : List Expr) (kws : List Keyword) (ρ : aj) (σ : aa) : T (D × aa) :=
 match cv d with
 | some i => .look .b (some (lstAt σ i).isSome) fun c => kZ o ev (cond c (mLst.lookup m) none) d m as kws ρ σ
 | none => kZ o ev (ja o σ d m) d m as kws ρ σ
theorem qB (o : aO) (ev : cy) (d : D) (m : Str) (as : List Expr) (kws : List Keyword) (ρ : aj) (σ : aa) : (callM o ev d m as kws ρ σ).run = (kZ o ev (ja o σ d m) d m as kws ρ σ).run := by
 cases d <;> try rfl
 rename_i i
 have e : ja o σ (.ptr i) m = cond (lstAt σ i).isSome (mLst.lookup m) none := by
  show (((lstAt σ i).bind fun _ => mLst.lookup m).or none) = _
  cases lstAt σ i
  ·rfl
  ·show (mLst.lookup m).or none = mLst.lookup m
   cases mLst.lookup m <;> rfl
 rw [e]
 rfl
noncomputable def al (o : aO) (σ : aa) (d i : D) : Option D := ((aC i).bind fun k => jf σ d k).or ((aV i).bind fun k => (eu d).bind fun t => (o.tab t).bind fun r => r.lookup k)
noncomputable def tf (o : aO) (f : Fn) (ev : cy) (co : Scope → cy × fN) (elt target iter : Expr) (ifs : List Expr) (sc : Scope) (ρ : aj) (σ : aa) : T (D × aa) := .lb (gd (f.own && jm f sc)) fun _ => (bJ o f ev iter ρ σ).bind fun (lk, items, σ₁) => gT (decide (items.length ≤ cC))
 ((fk (ca f sc) (co sc).1 (co sc).2 target elt ifs (iB sc ρ) items σ₁).bind fun (ds, σ₂) => .lb (bL σ₂ lk) fun σ₃ => .ret (.lst ds, σ₃))
noncomputable def Gs (o : aO) (f : Fn) (ev : cy) (tr : fN) (co : Scope → cy × fN) (e : Expr) (v : V) (ρ : aj) (σ : aa) : T (D × aa) := match v with
 | .const c => .lb (ta c) fun d => .ret (d, σ)
 | .name x _ => if x == S "__debug__" then .ret (.bool true, σ) else if f.isL x then .lb (ρ.lookup x) fun d => .ret (d, σ) else .lb (gd (f.isG x)) fun _ => .lb (o.glob x) fun d => .ret (d, σ)
 | .bin l op r p => (ev l ρ σ).bind fun (a, σ₁) => (ev r ρ σ₁).bind fun (b, σ₂) => .look .d (aB op σ₂ a b) fun d => .ret (jC f p σ₂ d)
 | .neg e => (ev e ρ σ).bind fun (d, σ₁) => .lb (aC d) fun i => .ret (.int (-i), σ₁)
 | .nott _ => .fail
 | .ifx t a b => (tr t ρ σ).bind fun (c, σ₁) => .ask c (ev a ρ σ₁) (ev b ρ σ₁)
 | .band vs => zP ev vs ρ σ
 | .bor _ => .fail
 | .cmp l op r => (ev l ρ σ).bind fun (a, σ₁) => (ev r ρ σ₁).bind fun (b, σ₂) => .look .b (cmp op o σ₂ a b) fun r => .ret (.bool r, σ₂)
 | .attr v x => .lb (gd (jt (view v))) fun _ => (ev v ρ σ).bind fun (d, σ₁) => .look .d (mj o σ₁ d x) fun r => .ret (r, σ₁)
 | .slice v a b p => (ev v ρ σ).bind fun (d, σ₁) => (lK ev ρ σ₁ a).bind fun (i, σ₂) => (lK ev ρ σ₂ b).bind fun (j, σ₃) => .look .d (cI σ₃ d i j) fun r => .ret (jC f p σ₃ r)
 | .rev v c p => (ev v ρ σ).bind fun (d, σ₁) => (ev c ρ σ₁).bind fun (i, σ₂) => .lb (aC i) fun i => .lb (gd (i == -1)) fun _ => .lb (aF σ₂ d) fun l => gT (decide (l.length ≤ cC)) (.ret (aJ f p σ₂ l.reverse))
 | .sub v i => (ev v ρ σ).bind fun (d, σ₁) => (ev i ρ σ₁).bind fun (i, σ₂) => .look .d (al o σ₂ d i) fun r => .ret (r, σ₂)
 | .list es p => .lb (gd (decide (es.length ≤ 1000))) fun _ => (bB ev es ρ σ).bind fun (ds, σ₁) => .ret (aJ f p σ₁ ds)
 | .tup es => .lb (gd (decide (es.length ≤ 1000))) fun _ => (bB ev es ρ σ).bind fun (ds, σ₁) => .ret (.tup ds, σ₁)
 | .comp elt target iter ifs sc => .look .s (tf o f ev co elt target iter ifs sc ρ σ).run .ret
 | .callN x as => .lb (gd (f.isG x)) fun _ => if x == S "list" then jX f ev as ρ σ else (bB ev as ρ σ).bind fun (ds, σ₁) => callN o x ds σ₁
 | .callM v m l as kws => .lb (gd (jt (view v) && l && decide (as.length ≤ 3))) fun _ => (ev v ρ σ).bind fun (d, σ₁) => callM o ev d m as kws ρ σ₁
 | .other => .fail
noncomputable def GF (o : aO) (ev : cy) (tr : fN) (e : Expr) (v : V) (ρ : aj) (σ : aa) : T (Bool × aa) := match v with
 | .band vs => tD tr true vs ρ σ
 | .bor vs => tD tr false vs ρ σ
 | .nott e => (tr e ρ σ).bind fun (b, σ₁) => .ret (!b, σ₁)
 | .cmp l op r => (ev l ρ σ).bind fun (a, σ₁) => (ev r ρ σ₁).bind fun (b, σ₂) => .look .b (cmp op o σ₂ a b) fun r => .ret (r, σ₂)
 | v => .lb (gd (xN v)) fun _ => (ev e ρ σ).bind fun (d, σ₁) => .look .b (oj d) fun b => .ret (b, σ₁)
noncomputable def aD (o : aO) : Nat → Fn → cy × fN
 | 0, _ => (fun _ _ _ => .fail, fun _ _ _ => .fail)
 | n + 1, f => (fun e => Gs o f (aD o n f).1 (aD o n f).2 (fun sc => aD o n (ca f sc)) e (view e), fun e => GF o (aD o n f).1 (aD o n f).2 e (view e))
noncomputable abbrev mQ := Stmt → aj → aa → T (Fl × aj × aa)
noncomputable def ba (ex : mQ) : List Stmt → aj → aa → T (Fl × aj × aa)
 | [], ρ, σ => .ret (.next, ρ, σ)
 | s :: r, ρ, σ => (ex s ρ σ).bind fun (fl, ρ₁, σ₁) => match fl with
  | .next => ba ex r ρ₁ σ₁
  | fl => .ret (fl, ρ₁, σ₁)
noncomputable def cV (f : Fn) (ex : mQ) (target : Expr) (body : List Stmt) : List D → aj → aa → T (Fl × aj × aa)
 | [], ρ, σ => .ret (.next, ρ, σ)
 | d :: ds, ρ, σ => .lb (ct f target d ρ) fun ρ₁ => (ba ex body ρ₁ σ).bind fun (fl, ρ₂, σ₂) => match fl with
   | .next => cV f ex target body ds (ρ₂.take ρ.length) σ₂
   | .brk => .ret (.next, ρ₂.take ρ.length, σ₂)
   | .ret d => .ret (.ret d, ρ₂, σ₂)
noncomputable def cz (tr : fN) (ex : mQ) (test : Expr) (body : List Stmt) : Nat → aj → aa → T (Fl × aj × aa)
 | 0, _, _ => .fail
 | m + 1, ρ, σ => (tr test ρ σ).bind fun (c, σ₁) => .ask c ((ba ex body ρ σ₁).bind fun (fl, ρ₂, σ₂) => match fl with
   | .next => cz tr ex test body m (ρ₂.take ρ.length) σ₂
   | .brk => .ret (.next, ρ₂.take ρ.length, σ₂)
   | .ret d => .ret (.ret d, ρ₂, σ₂)) (.ret (.next, ρ, σ₁))
noncomputable def mZ (o : aO) (f : Fn) (ev : cy) (t : Expr) (d : D) (ρ : aj) (σ : aa) : T (aj × aa) := match qO t with
 | .slice v a b => (ev v ρ σ).bind fun (p, σ₁) => .lb (cv p) fun i => (ev a ρ σ₁).bind fun (x, σ₂) => .lb (aC x) fun x => (ev b ρ σ₂).bind fun (y, σ₃) => .lb (aC y) fun y =>
   .lb (lstAt σ₃ i) fun l => .lb (dz d) fun r => gT (decide (0 ≤ x ∧ x ≤ y ∧ y ≤ l.length ∧ l.length + r.length ≤ cC)) (.ret (ρ, σ₃.set i (.lst (l.take x.toNat ++ r ++ l.drop y.toNat))))
 | .sub v i => (ev v ρ σ).bind fun (p, σ₁) => .lb (cv p) fun j => (ev i ρ σ₁).bind fun (x, σ₂) => .lb (aC x) fun x => .ll (lstAt σ₂ j) fun l => gT (decide (0 ≤ x ∧ x < l.length ∧ x ≤ 16000000)) (.ret (ρ, σ₂.set j (.lst (l.set x.toNat d))))
 | .attr v x => (ev v ρ σ).bind fun (p, σ₁) => .lb (cv p) fun j => .lb (nF σ₁ j) fun (c, fs) => .lb (gd (o.fld c x && decide (fs.length ≤ 1000))) fun _ => .ret (ρ, σ₁.set j (.inst c (setF fs x d)))
 | .other => .fail
 | _ => .lb (ct f t d ρ) fun ρ' => .ret (ρ', σ)
noncomputable def dZ (o : aO) (f : Fn) (ev : cy) : List Expr → D → aj → aa → T (aj × aa)
 | [], _, ρ, σ => .ret (ρ, σ)
 | t :: ts, d, ρ, σ => (mZ o f ev t d ρ σ).bind fun (ρ₁, σ₁) => dZ o f ev ts d ρ₁ σ₁
noncomputable def pJ (op : Operator) (a b : D) : Option D := ((aC a).bind fun x => (aC b).bind fun y => match op with
  | .Add => some (D.int (x + y))
  | .Sub => some (D.int (x - y))
  | _ => none).or ((gd (j7 op)).bind fun _ => fM a b)
noncomputable def oV (ts : List Expr) : List Str := ts.filterMap kG
noncomputable def rV (ts : List Expr) (vs : List Expr) : Bool := decide (oV ts).Nodup && (vs.all (foldedForSure 8) || !vs.all (constantsAlone 8))
noncomputable def oR (ts : List Expr) (e : Expr) : Bool := match ts with
 | [t] => match qO t with
  | .tup us => match qO e with
   | .tup vs => rV us vs
   | _ => true
  | .other => false
  | _ => true
 | _ => true
set_option genCtorIdx true in
inductive W1 where
 | expr (e : Expr)
 | assign (ts : List Expr) (e : Expr)
 | augN (x : Str) (op : Operator) (e : Expr)
 | augS (v i : Expr) (op : Operator) (e : Expr)
 | ifs (t : Expr) (a b : List Stmt)
 | whil (t : Expr) (b : List Stmt)
 | for (t it : Expr) (b : List Stmt)
 | ret (e : Expr)
 | brk
 | pass
 | other
noncomputable def F8 (e : Expr) : Bool := by cases e with | Name => exact true | _ => exact false
noncomputable def EO (t : Expr) (op : Operator) (e : Expr) : W1 := match qO t with
 | .name x => .augN x op e
 | .sub v i => if F8 i then .augS v i op e else .other
 | _ => .other
noncomputable def kz (s : Stmt) : W1 := by
 cases s with
 | Expr e => exact .expr e
 | Assign ts e => exact .assign ts e
 | AugAssign t op e => exact EO t op e
 | If t a b => exact .ifs t a b
 | While t b c => exact if c.isEmpty then .whil t b else .other
 | For t it b c => exact if c.isEmpty then .for t it b else .other
 | Return e => exact e.elim .other .ret
 | Break => exact .brk
 | Pass => exact .pass
 | _ => exact .other
noncomputable def AN (o : aO) (f : Fn) (ev : cy) (tr : fN) (ex : mQ) (M : Nat) (v : W1) (ρ : aj) (σ : aa) : T (Fl × aj × aa) := match v with
 | .expr e => .lb (gd (ph (view e))) fun _ => (ev e ρ σ).bind fun (_, σ₁) => .ret (.next, ρ, σ₁)
 | .assign ts e => .lb (gd (oR ts e)) fun _ => (ev e ρ σ).bind fun (d, σ₁) => (dZ o f ev ts d ρ σ₁).bind fun (ρ₂, σ₂) => .ret (.next, ρ₂, σ₂)
 | .augN x op e => .lb (gd (f.canSet x)) fun _ => .lb (ρ.lookup x) fun a => (ev e ρ σ).bind fun (b, σ₁) => .look .d (pJ op a b) fun d => .ret (.next, cq ρ x d, σ₁)
 | .augS v i op e => (ev v ρ σ).bind fun (p, σ₁) => .lb (cv p) fun j => (ev i ρ σ₁).bind fun (k, σ₂) => .lb (aC k) fun k => .lb (lstAt σ₂ j) fun l => gT (decide (0 ≤ k ∧ k < l.length ∧ k ≤ 16000000))
   (.look .d l[k.toNat]? fun a => (ev e ρ σ₂).bind fun (b, σ₃) => .look .d (pJ op a b) fun c => .lb (lstAt σ₃ j) fun l' => gT (decide (k < l'.length)) (.ret (.next, ρ, σ₃.set j (.lst (l'.set k.toNat c)))))
 | .ifs t a b => (tr t ρ σ).bind fun (c, σ₁) => .ask c (ba ex a ρ σ₁) (ba ex b ρ σ₁)
 | .whil t b => cz tr ex t b M ρ σ
 | .for t it b => (bJ o f ev it ρ σ).bind fun (lk, items, σ₁) => (cV f ex t b items ρ σ₁).bind fun (fl, ρ₂, σ₂) => .lb (bL σ₂ lk) fun σ₃ => .ret (fl, ρ₂, σ₃)
 | .ret e => (ev e ρ σ).bind fun (d, σ₁) => if f.fz then .ret (.ret (frz σ₁ d).1, ρ, (frz σ₁ d).2) else .ret (.ret d, ρ, σ₁)
 | .brk => .ret (.brk, ρ, σ)
 | .pass => .ret (.next, ρ, σ)
 | .other => .fail
noncomputable def ex (o : aO) (f : Fn) (M : Nat) : Nat → mQ
 | 0 => fun _ _ _ => .fail
 | n + 1 => fun s => AN o f (aD o n f).1 (aD o n f).2 (ex o f M n) M (kz s)
end
section
noncomputable abbrev PH := Addr → Option Obj
noncomputable abbrev Mu := List (Addr × Addr)
noncomputable abbrev ao (vs : Array Value) (n : Nat) : Obj := { cls := .type "list", data := .seq vs n }
noncomputable abbrev jN (vs : Array Value) (n : Nat) : Obj := { cls := .type "tuple", data := .seq vs n }
noncomputable def GI (g : PH) (a c d : Addr) : Prop := ∃ oo, g a = some oo ∧ oo.cls = .ref c ∧ (∀ k, oo.data ≠ .cls k) ∧ oo.dict = some d ∧ d ≠ a
theorem GI.mono {g g' : PH} {a c d : Addr} (h : GI g a c d) (hg : ∀ a o, g a = some o → g' a = some o) : GI g' a c d := let ⟨oo, e, r⟩ := h; ⟨oo, hg _ _ e, r⟩
noncomputable def NsG (g : PH) (a : Addr) (m : Str → Option Value) : Prop :=
 ∃ o es ep, g a = some o ∧ o.data = .dict es ep ∧ StrKeys es ∧ UniqKeys es ∧ ∀ name, nsFind es name = m name
mutual
noncomputable def Rd (μ : Mu) (g : PH) (v : Value) : D → Prop
 | .none => v = .none
 | .bool b => v = .bool b
 | .int i => ∃ t, v = .int i t
 | .str s => ar s = true ∧ ∃ t, v = .str ⟨s.toArray⟩ t
 | .typ n => v = .type n
 | .tup l => ∃ a vs n, v = .ref a ∧ g a = some (jN vs n) ∧ RdAll μ g vs.toList l
 | .lst l => ∃ a vs n, v = .ref a ∧ g a = some (ao vs n) ∧ RdAll μ g vs.toList l
 | .obj c fs => ∃ a d m, v = .ref a ∧ GI g a c d ∧ NsG g d m ∧ (∀ x, (∀ p ∈ fs, p.1 ≠ x) → m x = none) ∧ RdFs μ g m fs
 | .ptr i => ∃ a m, μ[i]? = some (a, m) ∧ v = .ref a
 | .base a => v = .ref a
noncomputable def RdAll (μ : Mu) (g : PH) : List Value → List D → Prop
 | [], [] => True
 | v :: vs, d :: ds => Rd μ g v d ∧ RdAll μ g vs ds
 | _, _ => False
noncomputable def RdFs (μ : Mu) (g : PH) (m : Str → Option Value) : List (Str × D) → Prop
 | [] => True
 | (x, d) :: r => (∃ v, m x = some v ∧ Rd μ g v d) ∧ RdFs μ g m r
end
theorem NsG.mono {g g' : PH} {a : Addr} {m : Str → Option Value} (h : NsG g a m) (hg : ∀ a o, g a = some o → g' a = some o) : NsG g' a m := by
 obtain ⟨o, es, ep, h1, h2⟩ := h
 exact ⟨o, es, ep, hg _ _ h1, h2⟩
mutual
theorem Rd.mono {μ μ' : Mu} {g g' : PH} (hg : ∀ a o, g a = some o → g' a = some o) (hm : μ <+: μ') {v : Value} : ∀ {d : D}, Rd μ g v d → Rd μ' g' v d
 | .none, h => h
 | .bool b, h => h
 | .int i, h => h
 | .str s, h => h
 | .typ n, h => h
 | .tup l, h => by
  obtain ⟨a, vs, n, h1, h2, h3⟩ := h
  exact ⟨a, vs, n, h1, hg _ _ h2, RdAll.mono hg hm h3⟩
 | .lst l, h => by
  obtain ⟨a, vs, n, h1, h2, h3⟩ := h
  exact ⟨a, vs, n, h1, hg _ _ h2, RdAll.mono hg hm h3⟩
 | .obj c fs, h => by
  obtain ⟨a, d, m, h1, h2, h3, h4, h5⟩ := h
  exact ⟨a, d, m, h1, h2.mono hg, h3.mono hg, h4, RdFs.mono hg hm h5⟩
 | .ptr i, h => by
  obtain ⟨a, m, h1, h2⟩ := h
  obtain ⟨t, rfl⟩ := hm
  exact ⟨a, m, by rw [List.getElem?_append_left ((List.getElem?_eq_some_iff.mp h1).1)]; exact h1, h2⟩
 | .base a, h => h
theorem RdAll.mono {μ μ' : Mu} {g g' : PH} (hg : ∀ a o, g a = some o → g' a = some o) (hm : μ <+: μ') : ∀ {vs : List Value} {ds : List D}, RdAll μ g vs ds → RdAll μ' g' vs ds
 | [], [], _ => trivial
 | _ :: _, _ :: _, h => by
  exact ⟨Rd.mono hg hm h.1, RdAll.mono hg hm h.2⟩
 | [], _ :: _, h => by cases h
 | _ :: _, [], h => by cases h
theorem RdFs.mono {μ μ' : Mu} {g g' : PH} (hg : ∀ a o, g a = some o → g' a = some o) (hm : μ <+: μ') {m : Str → Option Value} : ∀ {fs : List (Str × D)}, RdFs μ g m fs → RdFs μ' g' m fs
 | [], _ => trivial
 | (x, d) :: r, h => by
  obtain ⟨⟨v, h1, h2⟩, h3⟩ := h
  exact ⟨⟨v, h1, Rd.mono hg hm h2⟩, RdFs.mono hg hm h3⟩
end
theorem RdAll.length {μ : Mu} {g : PH} : ∀ {vs : List Value} {ds : List D}, RdAll μ g vs ds → vs.length = ds.length
 | [], [], _ => rfl
 | _ :: _, _ :: _, h => by simp [RdAll.length h.2]
 | [], _ :: _, h => by cases h
 | _ :: _, [], h => by cases h
theorem RdAll.get {μ : Mu} {g : PH} : ∀ {vs : List Value} {ds : List D} {k : Nat} {d : D}, RdAll μ g vs ds → ds[k]? = some d → ∃ v, vs[k]? = some v ∧ Rd μ g v d
 | [], [], k, d, _, hk => by simp at hk
 | v :: vs, e :: ds, 0, d, h, hk => by
  simp only [List.getElem?_cons_zero, Option.some.injEq] at hk ⊢
  exact ⟨v, rfl, hk ▸ h.1⟩
 | v :: vs, e :: ds, k + 1, d, h, hk => by
  simp only [List.getElem?_cons_succ] at hk ⊢
  exact RdAll.get h.2 hk
 | [], _ :: _, _, _, h, _ => by cases h
 | _ :: _, [], _, _, h, _ => by cases h
theorem RdAll.append {μ : Mu} {g : PH} : ∀ {vs ws : List Value} {ds es : List D}, RdAll μ g vs ds → RdAll μ g ws es → RdAll μ g (vs ++ ws) (ds ++ es)
 | [], ws, [], es, _, h => h
 | v :: vs, ws, e :: ds, es, h, h' => by
  simp only [List.cons_append] at h ⊢
  exact ⟨h.1, RdAll.append h.2 h'⟩
 | [], _, _ :: _, _, h, _ => by cases h
 | _ :: _, _, [], _, h, _ => by cases h
theorem RdAll.take {μ : Mu} {g : PH} : ∀ (k : Nat) {vs : List Value} {ds : List D}, RdAll μ g vs ds → RdAll μ g (vs.take k) (ds.take k)
 | 0, _, _, _ => trivial
 | k + 1, [], [], _ => trivial
 | k + 1, v :: vs, d :: ds, h => by
  simp only [List.take_succ_cons] at h ⊢
  exact ⟨h.1, RdAll.take k h.2⟩
 | k + 1, [], _ :: _, h => by cases h
 | k + 1, _ :: _, [], h => by cases h
theorem RdAll.drop {μ : Mu} {g : PH} : ∀ (k : Nat) {vs : List Value} {ds : List D}, RdAll μ g vs ds → RdAll μ g (vs.drop k) (ds.drop k)
 | 0, _, _, h => h
 | k + 1, [], [], _ => trivial
 | k + 1, v :: vs, d :: ds, h => by
  simp only [List.drop_succ_cons] at h ⊢
  exact RdAll.drop k h.2
 | k + 1, [], _ :: _, h => by cases h
 | k + 1, _ :: _, [], h => by cases h
theorem RdAll.set {μ : Mu} {g : PH} {v : Value} {d : D} (hv : Rd μ g v d) : ∀ (k : Nat) {vs : List Value} {ds : List D}, RdAll μ g vs ds → RdAll μ g (vs.set k v) (ds.set k d)
 | _, [], [], h => h
 | 0, _ :: _, _ :: _, h => by
  simp only [List.set_cons_zero] at h ⊢
  exact ⟨hv, h.2⟩
 | k + 1, _ :: _, _ :: _, h => by
  simp only [List.set_cons_succ] at h ⊢
  exact ⟨h.1, RdAll.set hv k h.2⟩
 | _, [], _ :: _, h => by cases h
 | _, _ :: _, [], h => by cases h
theorem RdAll.reverse {μ : Mu} {g : PH} : ∀ {vs : List Value} {ds : List D}, RdAll μ g vs ds → RdAll μ g vs.reverse ds.reverse
 | [], [], h => h
 | v :: vs, d :: ds, h => by
  rw [List.reverse_cons, List.reverse_cons]
  exact RdAll.append (RdAll.reverse h.2) ⟨h.1, trivial⟩
 | [], _ :: _, h => by cases h
 | _ :: _, [], h => by cases h
theorem RdFs.get {μ : Mu} {g : PH} {m : Str → Option Value} : ∀ {fs : List (Str × D)} {x : Str} {d : D}, RdFs μ g m fs → fs.lookup x = some d → ∃ v, m x = some v ∧ Rd μ g v d
 | [], x, d, _, h => by simp at h
 | (y, e) :: r, x, d, h, hl => by
  rw [List.lookup_cons] at hl
  by_cases hxy : x = y
  ·subst hxy
   simp only [beq_self_eq_true, Option.some.injEq] at hl
   exact hl ▸ h.1
  ·have : (x == y) = false := by simpa using hxy
   simp only [this] at hl
   exact RdFs.get h.2 hl
structure Cx where
 Φ : PH
 g₀ : PH
 μ₀ : Mu
 os : OsState
 gn : Array GenState
 /-- the lists that are held fast from outside -/
 lk : Addr → Prop
noncomputable def Live : SO → Prop
 | .lst _ => True
 | .inst _ _ => True
 | _ => False
noncomputable def jw : SO → Prop
 | .dead => False
 | _ => True
theorem Live.occ {so : SO} (h : Live so) : jw so := by cases so <;> first | exact h.elim | trivial
inductive SoL (C : Cx) (env : Env) (μ : Mu) (g : PH) (h : Heap) (a m : Addr) (l : List D) : Prop
 | mk (e1 : m = a) (e2 : C.Φ m = none) (e3 : g m = none) (e4 : m ≠ env.locals) (vs : Array Value) (n : Nat) (ob : h.get? a = some (ao vs n)) (rd : RdAll μ g vs.toList l) : SoL C env μ g h a m l
inductive SoK (C : Cx) (env : Env) (μ : Mu) (g : PH) (h : Heap) (a m : Addr) (l : List D) : Prop
 | mk (e1 : m = a) (e3 : g m = none) (e4 : m ≠ env.locals) (vs : Array Value) (n : Nat) (ob : h.get? a = some (ao vs n)) (rd : RdAll μ g vs.toList l ∧ (C.Φ m = none ∨ C.lk m)) : SoK C env μ g h a m l
inductive SoI (C : Cx) (env : Env) (μ : Mu) (g : PH) (h : Heap) (a m c : Addr) (fs : List (Str × D)) : Prop
 | mk (e2 : C.Φ m = none) (e3 : g m = none) (e4 : m ≠ env.locals) (e1 : GI g a c m) (mm : Str → Option Value) (ns : h.Ns1 m mm) (rd : (∀ x, (∀ p ∈ fs, p.1 ≠ x) → mm x = none) ∧ RdFs μ g mm fs) : SoI C env μ g h a m c fs
section
variable {C : Cx} {env : Env} {μ : Mu} {g : PH} {h : Heap} {a m c : Addr} {l : List D} {fs : List (Str × D)}
theorem SoL.e1 : SoL C env μ g h a m l → m = a | ⟨e, _, _, _, _, _, _, _⟩ => e
theorem SoL.e2 : SoL C env μ g h a m l → C.Φ m = none | ⟨_, e, _, _, _, _, _, _⟩ => e
theorem SoL.e3 : SoL C env μ g h a m l → g m = none | ⟨_, _, e, _, _, _, _, _⟩ => e
theorem SoL.e4 : SoL C env μ g h a m l → m ≠ env.locals | ⟨_, _, _, e, _, _, _, _⟩ => e
theorem SoK.e3 : SoK C env μ g h a m l → g m = none | ⟨_, e, _, _, _, _, _⟩ => e
theorem SoK.e4 : SoK C env μ g h a m l → m ≠ env.locals | ⟨_, _, e, _, _, _, _⟩ => e
theorem SoI.e2 : SoI C env μ g h a m c fs → C.Φ m = none | ⟨e, _, _, _, _, _, _⟩ => e
theorem SoI.e3 : SoI C env μ g h a m c fs → g m = none | ⟨_, e, _, _, _, _, _⟩ => e
theorem SoI.e4 : SoI C env μ g h a m c fs → m ≠ env.locals | ⟨_, _, e, _, _, _, _⟩ => e
end
noncomputable def SoOK (C : Cx) (env : Env) (μ : Mu) (g : PH) (h : Heap) (a m : Addr) : SO → Prop
 | .dead => True
 | .lst l => SoL C env μ g h a m l
 | .lock l => SoK C env μ g h a m l
 | .inst c fs => SoI C env μ g h a m c fs
structure St (h₀ : Heap) (C : Cx) (env : Env) (g : PH) (μ : Mu) (ρ : aj) (σ : aa) (τ : List (Value × D)) (s : Shared) : Prop where
 base : ∀ a o, h₀.get? a = some o → C.Φ a = some o
 phi : ∀ a o, C.Φ a = some o → s.heap.get? a = some o
 imm : ∀ a o, g a = some o → s.heap.get? a = some o
 grow : ∀ a o, g a = some o → C.g₀ a = some o ∨ C.Φ a = none
 ext : ∀ a o, C.g₀ a = some o → g a = some o
 pre : C.μ₀ <+: μ
 len : σ.length = μ.length
 dist : ∀ (i j : Nat) (so so' : SO) (a m a' m' : Addr), σ[i]? = some so → jw so → σ[j]? = some so' → jw so' → μ[i]? = some (a, m) → μ[j]? = some (a', m') → m = m' → i = j
 sto : ∀ (i : Nat) (so : SO), σ[i]? = some so → ∃ a m, μ[i]? = some (a, m) ∧ SoOK C env μ g s.heap a m so
 ownΦ : C.Φ env.locals = none
 owng : g env.locals = none
 loc : ∃ m, s.heap.Ns env.locals m ∧ ∀ x d, ρ.lookup x = some d → env.kindOf x = some .local → ∃ v, m x = some v ∧ Rd μ g v d
 cel : ∀ x d, ρ.lookup x = some d → env.kindOf x = some .cell ∨ env.kindOf x = some .free → ∃ c v, env.cells.lookup x = some c ∧ s.heap.IsCell c (some v) ∧ Rd μ g v d
 celW : ∀ x, env.func.isSome = true → env.kindOf x = some .cell → ∃ c v, env.cells.lookup x = some c ∧ s.heap.IsCell c v ∧ C.Φ c = none ∧ g c = none
 celD : ∀ x y c, env.cells.lookup x = some c → env.cells.lookup y = some c → x = y
 tmp : ∀ p ∈ τ, Rd μ g p.1 p.2
 bare : AllBare s.gens
 gens : ∀ (i : Nat) (x : GenState), C.gn[i]? = some x → s.gens[i]? = some x
 os : s.os = C.os
variable {h₀ : Heap} {C : Cx} {env : Env} {g : PH} {μ : Mu} {ρ : aj} {σ : aa} {τ : List (Value × D)} {s : Shared}
theorem St.stoAt (S : St h₀ C env g μ ρ σ τ s) {i : Nat} {so : SO} {a m : Addr} (hi : σ[i]? = some so) (hm : μ[i]? = some (a, m)) : SoOK C env μ g s.heap a m so := by
 obtain ⟨a', m', e1, k⟩ := S.sto i so hi
 rw [hm] at e1
 cases e1
 exact k
theorem St.toks (S : St h₀ C env g μ ρ σ τ s) (t : Nat) : St h₀ C env g μ ρ σ τ { s with toks := t } := ⟨S.base, S.phi, S.imm, S.grow, S.ext, S.pre, S.len, S.dist, S.sto, S.ownΦ, S.owng, S.loc, S.cel, S.celW, S.celD, S.tmp, S.bare, S.gens, S.os⟩
theorem St.put (S : St h₀ C env g μ ρ σ τ s) {v : Value} {d : D} (h : Rd μ g v d) : St h₀ C env g μ ρ σ ((v, d) :: τ) s :=
 have h' : ∀ p ∈ ((v, d) :: τ), Rd μ g p.1 p.2 := fun p hp => by
  rcases List.mem_cons.mp hp with rfl | hp
  ·exact h
  ·exact S.tmp p hp
 { S with tmp := h' }
theorem St.sub (S : St h₀ C env g μ ρ σ τ s) {τ' : List (Value × D)} (h : ∀ p ∈ τ', p ∈ τ) : St h₀ C env g μ ρ σ τ' s := { S with tmp := fun p hp => S.tmp p (h p hp) }
theorem St.rho (S : St h₀ C env g μ ρ σ τ s) {ρ' : aj} (h : ∀ x d, ρ'.lookup x = some d → ρ.lookup x = some d) : St h₀ C env g μ ρ' σ τ s := { S with
 loc := let ⟨m, a, b⟩ := S.loc; ⟨m, a, fun x d hx hk => b x d (h x d hx) hk⟩
 cel := fun x d hx hk => S.cel x d (h x d hx) hk }
theorem ic : ∀ (n : Nat) {ρ : aj} {x : Str} {d : D}, (ρ.take n).lookup x = some d → ρ.lookup x = some d
 | 0, _, _, _, h => by simp at h
 | n + 1, [], _, _, h => by simp at h
 | n + 1, (y, e) :: ρ, x, d, h => by
  rw [List.take_succ_cons, List.lookup_cons] at h
  rw [List.lookup_cons]
  cases hx : x == y with
  | true => rw [hx] at h; exact h
  | false => rw [hx] at h; exact ic n h
theorem St.cut (S : St h₀ C env g μ ρ σ τ s) (n : Nat) : St h₀ C env g μ (ρ.take n) σ τ s := S.rho fun _ _ h => ic n h
theorem bq {h h' : Heap} {c x : Addr} {v : Option Value} (hc : h.IsCell c v) (hx : c ≠ x) (hk : Heap.ExtBut x h h') : h'.IsCell c v := by
 obtain ⟨o, h1, h2⟩ := hc
 exact ⟨o, hk _ _ hx h1, h2⟩
theorem oT {h h' : Heap} {c x : Addr} {m : Str → Option Value} (hc : h.Ns c m) (hx : c ≠ x) (hk : Heap.ExtBut x h h') : h'.Ns c m := by
 obtain ⟨o, es, ep, h1, h2⟩ := hc
 exact ⟨o, es, ep, hk _ _ hx h1, h2⟩
theorem gc {h h' : Heap} {c x : Addr} {m : Str → Option Value} (hc : h.Ns1 c m) (hx : c ≠ x) (hk : Heap.ExtBut x h h') : h'.Ns1 c m := hc.at fun o e => hk _ _ hx e
theorem yt {h : Heap} {a : Addr} {m : Str → Option Value} {vs : Array Value} {n : Nat} (h1 : h.Ns a m) (h2 : h.get? a = some (ao vs n)) : False := by
 obtain ⟨o, es, ep, h3, h4, _⟩ := h1
 rw [h2] at h3
 cases h3
 cases h4
theorem gD {h : Heap} {a : Addr} {v : Option Value} {vs : Array Value} {n : Nat} (h1 : h.IsCell a v) (h2 : h.get? a = some (ao vs n)) : False := by
 obtain ⟨o, h3, h4⟩ := h1
 rw [h2] at h3
 cases h3
 cases h4
theorem dh {h : Heap} {a : Addr} {v : Option Value} {m : Str → Option Value} (h1 : h.IsCell a v) (h2 : h.Ns a m) : False := by
 obtain ⟨o, h3, h4⟩ := h1
 obtain ⟨o', es, ep, h5, h6, _⟩ := h2
 rw [h5] at h3
 clear h5; cases h3
 rw [h6] at h4
 cases h4
theorem St.more (S : St h₀ C env g μ ρ σ τ s) {h' : Heap} (hk : ∀ b o, s.heap.get? b = some o → h'.get? b = some o) (t : Nat) : St h₀ C env g μ ρ σ τ { s with heap := h', toks := t } := { S with
 phi := fun a o h => hk _ _ (S.phi a o h)
 imm := fun a o h => hk _ _ (S.imm a o h)
 sto := fun i so hi => by
  obtain ⟨a, m, h1, h2⟩ := S.sto i so hi
  refine ⟨a, m, h1, ?_⟩
  cases so with
  | dead => trivial
  | lock l => obtain ⟨a1, a3, a4, vs, n, a5, a6⟩ := h2; exact ⟨a1, a3, a4, vs, n, hk _ _ a5, a6⟩
  | lst l => obtain ⟨a1, a2, a3, a4, vs, n, a5, a6⟩ := h2; exact ⟨a1, a2, a3, a4, vs, n, hk _ _ a5, a6⟩
  | inst c fs => obtain ⟨a1, a2, a3, a4, mm, ⟨o, es, ep, b1, b2⟩, a6⟩ := h2; exact ⟨a1, a2, a3, a4, mm, ⟨o, es, ep, hk _ _ b1, b2⟩, a6⟩
 loc := by
  obtain ⟨m, ⟨o, es, ep, b1, b2⟩, h2⟩ := S.loc
  exact ⟨m, ⟨o, es, ep, hk _ _ b1, b2⟩, h2⟩
 cel := fun x d hx hc => by
  obtain ⟨c, v, h1, ⟨o, b1, b2⟩, h3⟩ := S.cel x d hx hc
  exact ⟨c, v, h1, ⟨o, hk _ _ b1, b2⟩, h3⟩
 celW := fun x hf hc => by
  obtain ⟨c, v, h1, ⟨o, b1, b2⟩, h3⟩ := S.celW x hf hc
  exact ⟨c, v, h1, ⟨o, hk _ _ b1, b2⟩, h3⟩ }
noncomputable def fq (g : PH) (a : Addr) (o : Obj) : PH := fun b => if b = a then some o else g b
theorem aP (g : PH) (a : Addr) (o : Obj) : fq g a o a = some o := by simp [fq]
theorem a0 (g : PH) {a b : Addr} (o : Obj) (h : b ≠ a) : fq g a o b = g b := by simp [fq, h]
theorem bV {g : PH} {a : Addr} {o : Obj} (h : g a = none ∨ g a = some o) : ∀ b o', g b = some o' → fq g a o b = some o' := fun b o' hb => by
 by_cases e : b = a
 ·subst e
  rcases h with h | h
  ·rw [h] at hb; cases hb
  ·rw [aP, ← h, hb]
 ·rw [a0 _ _ e]; exact hb
theorem SoOK.mono {C : Cx} {env : Env} {μ μ' : Mu} {g g' : PH} {h : Heap} {a m : Addr} {so : SO} (x : SoOK C env μ g h a m so) (hg : ∀ a o, g a = some o → g' a = some o) (hm : μ <+: μ')
  (hl : jw so → g m = none → g' m = none) : SoOK C env μ' g' h a m so := by
 cases so with
 | dead => trivial
 | lock l => obtain ⟨a1, a3, a4, vs, n, a5, a6⟩ := x; exact ⟨a1, hl trivial a3, a4, vs, n, a5, a6.1.mono hg hm, a6.2⟩
 | lst l => obtain ⟨a1, a2, a3, a4, vs, n, a5, a6⟩ := x; exact ⟨a1, a2, hl trivial a3, a4, vs, n, a5, a6.mono hg hm⟩
 | inst c fs => obtain ⟨a1, a2, a3, a4, mm, a5, a6, a7⟩ := x; exact ⟨a1, hl trivial a2, a3, a4.mono hg, mm, a5, a6, a7.mono hg hm⟩
theorem St.fix (S : St h₀ C env g μ ρ σ τ s) {a : Addr} {o : Obj} (ho : s.heap.get? a = some o) (hΦ : C.Φ a = none) (hl : a ≠ env.locals) (hc : ∀ v, o.data ≠ .cell v)
  (hs : ∀ (i : Nat) (so : SO) (x m : Addr), σ[i]? = some so → jw so → μ[i]? = some (x, m) → m ≠ a) : St h₀ C env (fq g a o) μ ρ σ τ s := by
 have hga : g a = none ∨ g a = some o := by
  cases h : g a with
  | none => exact .inl rfl
  | some o' => have := S.imm _ _ h; rw [ho] at this; exact .inr this.symm
 have hx := bV hga
 exact { S with
  imm := fun b o' hb => by
   by_cases e : b = a
   ·clear hΦ hl hs hga hx; subst e; rw [aP] at hb; cases hb; exact ho
   ·rw [a0 _ _ e] at hb; exact S.imm _ _ hb
  grow := fun b o' hb => by
   by_cases e : b = a
   ·clear ho hl hs hga hx hb; subst e; exact .inr hΦ
   ·rw [a0 _ _ e] at hb; exact S.grow _ _ hb
  ext := fun b o' hb => hx _ _ (S.ext _ _ hb)
  sto := fun i so hi => by
   obtain ⟨x, m, h1, h2⟩ := S.sto i so hi
   exact ⟨x, m, h1, h2.mono hx (List.prefix_refl _) fun hlv hn => by rw [a0 _ _ (hs i so x m hi hlv h1)]; exact hn⟩
  owng := by rw [a0 _ _ (Ne.symm hl)]; exact S.owng
  loc := by
   obtain ⟨m, h1, h2⟩ := S.loc
   exact ⟨m, h1, fun x d hx' hk => let ⟨v, a1, a2⟩ := h2 x d hx' hk; ⟨v, a1, a2.mono hx (List.prefix_refl _)⟩⟩
  cel := fun x d hx' hk => let ⟨c, v, a1, a2, a3⟩ := S.cel x d hx' hk; ⟨c, v, a1, a2, a3.mono hx (List.prefix_refl _)⟩
  celW := fun x hf hk => by
   obtain ⟨c, v, a1, a2, a3, a4⟩ := S.celW x hf hk
   refine ⟨c, v, a1, a2, a3, ?_⟩
   rw [a0 _ _ ?_]
   ·exact a4
   ·clear hΦ hl hs hga hx; rintro rfl
    obtain ⟨oo, b1, b2⟩ := a2
    rw [ho] at b1
    cases b1
    exact hc _ b2
  tmp := fun p hp => (S.tmp p hp).mono hx (List.prefix_refl _) }
theorem St.fixN (S : St h₀ C env g μ ρ σ τ s) {a : Addr} {o : Obj} (ho : s.heap.get? a = some o) (hΦ : C.Φ a = none) (hl : a ≠ env.locals) (hc : ∀ x c, env.cells.lookup x = some c → env.kindOf x = some .cell → env.func.isSome = true → c ≠ a)
  (hs : ∀ (i : Nat) (so : SO) (x m : Addr), σ[i]? = some so → jw so → μ[i]? = some (x, m) → m ≠ a) : St h₀ C env (fq g a o) μ ρ σ τ s := by
 have hga : g a = none ∨ g a = some o := by
  cases h : g a with
  | none => exact .inl rfl
  | some o' => have := S.imm _ _ h; rw [ho] at this; exact .inr this.symm
 have hx := bV hga
 exact { S with
  imm := fun b o' hb => by
   by_cases e : b = a
   ·clear hΦ hl hc hs hga hx; subst e; rw [aP] at hb; cases hb; exact ho
   ·rw [a0 _ _ e] at hb; exact S.imm _ _ hb
  grow := fun b o' hb => by
   by_cases e : b = a
   ·clear ho hl hc hs hga hx hb; subst e; exact .inr hΦ
   ·rw [a0 _ _ e] at hb; exact S.grow _ _ hb
  ext := fun b o' hb => hx _ _ (S.ext _ _ hb)
  sto := fun i so hi => by
   obtain ⟨x, m, h1, h2⟩ := S.sto i so hi
   exact ⟨x, m, h1, h2.mono hx (List.prefix_refl _) fun hlv hn => by rw [a0 _ _ (hs i so x m hi hlv h1)]; exact hn⟩
  owng := by rw [a0 _ _ (Ne.symm hl)]; exact S.owng
  loc := by
   obtain ⟨m, h1, h2⟩ := S.loc
   exact ⟨m, h1, fun x d hx' hk => let ⟨v, a1, a2⟩ := h2 x d hx' hk; ⟨v, a1, a2.mono hx (List.prefix_refl _)⟩⟩
  cel := fun x d hx' hk => let ⟨c, v, a1, a2, a3⟩ := S.cel x d hx' hk; ⟨c, v, a1, a2, a3.mono hx (List.prefix_refl _)⟩
  celW := fun x hf hk => by
   obtain ⟨c, v, a1, a2, a3, a4⟩ := S.celW x hf hk
   refine ⟨c, v, a1, a2, a3, ?_⟩
   rw [a0 _ _ ?_]
   ·exact a4
   ·exact hc x c a1 hk hf
  tmp := fun p hp => (S.tmp p hp).mono hx (List.prefix_refl _) }
end
section
variable {h₀ : Heap} {C : Cx} {env : Env} {g : PH} {μ : Mu} {ρ : aj} {σ : aa} {τ : List (Value × D)} {s : Shared}
theorem St.Φ_new (S : St h₀ C env g μ ρ σ τ s) : C.Φ s.heap.objs.size = none := by
 cases h : C.Φ s.heap.objs.size with
 | none => rfl
 | some o => exact absurd (Heap.lt_size (S.phi _ _ h)) (Nat.lt_irrefl _)
theorem St.g_new (S : St h₀ C env g μ ρ σ τ s) : g s.heap.objs.size = none := by
 cases h : g s.heap.objs.size with
 | none => rfl
 | some o => exact absurd (Heap.lt_size (S.imm _ _ h)) (Nat.lt_irrefl _)
theorem St.loc_lt (S : St h₀ C env g μ ρ σ τ s) : env.locals < s.heap.objs.size := let ⟨_, h, _⟩ := S.loc; h.lt
theorem St.live_lt (S : St h₀ C env g μ ρ σ τ s) {i : Nat} {so : SO} {a m : Addr} (hi : σ[i]? = some so) (hl : jw so) (hm : μ[i]? = some (a, m)) : m < s.heap.objs.size := by
 have h2 := S.stoAt hi hm
 cases so with
 | dead => cases hl
 | lock l => obtain ⟨a1, a3, a4, vs, n, a5, a6⟩ := h2; subst a1; exact Heap.lt_size a5
 | lst l => obtain ⟨a1, a2, a3, a4, vs, n, a5, a6⟩ := h2; subst a1; exact Heap.lt_size a5
 | inst c fs => obtain ⟨a1, a2, a3, a4, mm, a5, a6⟩ := h2; exact a5.lt
theorem St.alloc (S : St h₀ C env g μ ρ σ τ s) {o : Obj} (hf : o.isFreed = false) (hc : ∀ v, o.data ≠ .cell v) :
  St h₀ C env (fq g s.heap.objs.size o) μ ρ σ τ { s with heap := s.heap.push o } :=
 (S.more (h' := s.heap.push o) (fun b o' h => Heap.get?_push_of_some _ h) s.toks).fix (Heap.get?_push_size _ hf) S.Φ_new (Nat.ne_of_gt S.loc_lt) hc
  fun i so x m hi hl hm => Nat.ne_of_lt (S.live_lt hi hl hm)
theorem St.tuple (S : St h₀ C env g μ ρ σ τ s) {vs : List Value} {ds : List D} {τ' : List (Value × D)} (h : RdAll μ g vs ds) (ht : ∀ p ∈ τ', p ∈ τ) :
  ∃ g', St h₀ C env g' μ ρ σ ((.ref s.heap.objs.size, .tup ds) :: τ') { s with heap := s.heap.push (jN vs.toArray 0) } := by
 refine ⟨_, ((S.alloc rfl (by intro v e; cases e)).sub ht).put ?_⟩
 exact ⟨_, vs.toArray, 0, rfl, aP .., by simpa using h.mono (bV (.inl S.g_new)) (List.prefix_refl _)⟩
theorem d9 {α : Type} {l : List α} {x y : α} {i : Nat} (h : (l ++ [x])[i]? = some y) : (i < l.length ∧ l[i]? = some y) ∨ (i = l.length ∧ y = x) := by
 rcases Nat.lt_trichotomy i l.length with hi | rfl | hi
 ·rw [List.getElem?_append_left hi] at h; exact .inl ⟨hi, h⟩
 ·rw [List.getElem?_concat_length] at h; exact .inr ⟨rfl, (Option.some.inj h).symm⟩
 ·have : (l ++ [x]).length ≤ i := by simp; lia
  rw [List.getElem?_eq_none this] at h
  exact aW h
theorem St.newSo (S : St h₀ C env g μ ρ σ τ s) {a m : Addr} {so : SO} (hx : SoOK C env μ g s.heap a m so)
  (hd : ∀ (i : Nat) (so' : SO) (a' m' : Addr), σ[i]? = some so' → jw so' → μ[i]? = some (a', m') → m' ≠ m) : St h₀ C env g (μ ++ [(a, m)]) ρ (σ ++ [so]) τ s := by
 have hp : μ <+: μ ++ [(a, m)] := List.prefix_append ..
 have hg : ∀ a o, g a = some o → g a = some o := fun _ _ h => h
 exact { S with
  pre := S.pre.trans hp
  len := by simp [S.len]
  dist := fun i j so1 so2 a1 m1 a2 m2 h1 l1 h2 l2 e1 e2 em => by
   rcases d9 h1 with ⟨i1, h1⟩ | ⟨i1, h1⟩ <;> rcases d9 h2 with ⟨i2, h2⟩ | ⟨i2, h2⟩
   ·rw [List.getElem?_append_left (S.len ▸ i1)] at e1
    rw [List.getElem?_append_left (S.len ▸ i2)] at e2
    exact S.dist i j so1 so2 a1 m1 a2 m2 h1 l1 h2 l2 e1 e2 em
   ·rw [List.getElem?_append_left (S.len ▸ i1)] at e1
    rw [i2, S.len, List.getElem?_concat_length] at e2
    cases e2
    exact absurd em (hd i so1 a1 m1 h1 l1 e1)
   ·rw [List.getElem?_append_left (S.len ▸ i2)] at e2
    rw [i1, S.len, List.getElem?_concat_length] at e1
    cases e1
    exact absurd em.symm (hd j so2 a2 m2 h2 l2 e2)
   ·rw [i1, i2]
  sto := fun i so1 h1 => by
   rcases d9 h1 with ⟨i1, h1⟩ | ⟨i1, rfl⟩
   ·obtain ⟨a1, m1, e1, k1⟩ := S.sto i so1 h1
    exact ⟨a1, m1, by rw [List.getElem?_append_left (S.len ▸ i1)]; exact e1, k1.mono hg hp fun _ h => h⟩
   ·exact ⟨a, m, by rw [i1, S.len, List.getElem?_concat_length], hx.mono hg hp fun _ h => h⟩
  loc := by
   obtain ⟨m, h1, h2⟩ := S.loc
   exact ⟨m, h1, fun x d hx' hk => let ⟨v, a1, a2⟩ := h2 x d hx' hk; ⟨v, a1, a2.mono hg hp⟩⟩
  cel := fun x d hx' hk => let ⟨c, v, a1, a2, a3⟩ := S.cel x d hx' hk; ⟨c, v, a1, a2, a3.mono hg hp⟩
  tmp := fun p hp' => (S.tmp p hp').mono hg hp }
theorem cZ {α : Type} {l : List α} {i j : Nat} {x y : α} (h : (l.set i x)[j]? = some y) : (i = j ∧ i < l.length ∧ y = x) ∨ (i ≠ j ∧ l[j]? = some y) := by
 rw [List.getElem?_set] at h
 split at h
 ·rename_i e
  split at h
  ·exact .inl ⟨e, by assumption, (Option.some.inj h).symm⟩
  ·exact aW h
 ·rename_i e
  exact .inr ⟨e, h⟩
theorem St.turn (S : St h₀ C env g μ ρ σ τ s) {i : Nat} {so so' : SO} {a m : Addr} {h' : Heap} (hi : σ[i]? = some so) (hl : Live so) (hm : μ[i]? = some (a, m))
  (hs : Heap.ExtBut m s.heap h') (hx : SoOK C env μ g h' a m so') (t : Nat) : St h₀ C env g μ ρ (σ.set i so') τ { s with heap := h', toks := t } := by
 have k1 := S.stoAt hi hm
 have hΦ : C.Φ m = none := by cases so with
  | dead => cases hl
  | lock l => cases hl
  | lst l => exact k1.e2
  | inst c fs => exact k1.e2
 have hg : g m = none := by cases so with
  | dead => cases hl
  | lock l => cases hl
  | lst l => exact k1.e3
  | inst c fs => exact k1.e3
 have hL : m ≠ env.locals := by cases so with
  | dead => cases hl
  | lock l => cases hl
  | lst l => exact k1.e4
  | inst c fs => exact k1.e4
 have hcell : ∀ c v, s.heap.IsCell c v → c ≠ m := by
  clear hm hs hx hΦ hg hL; rintro c v hc rfl
  cases so with
  | dead => cases hl
  | lock l => cases hl
  | lst l => obtain ⟨a1, a2, a3, a4, vs, n, a5, a6⟩ := k1; subst a1; exact gD hc a5
  | inst c fs => obtain ⟨a1, a2, a3, a4, mm, a5, a6⟩ := k1; exact dh hc a5.ns
 have ne : ∀ b o, b ≠ m → s.heap.get? b = some o → h'.get? b = some o := hs
 exact { S with
  phi := fun b o h => ne _ _ (by rintro rfl; rw [hΦ] at h; cases h) (S.phi b o h)
  imm := fun b o h => ne _ _ (by rintro rfl; rw [hg] at h; cases h) (S.imm b o h)
  len := by simp [S.len]
  dist := fun p q so1 so2 a1 m1 a2 m2 h1 l1 h2 l2 e1 e2 em => by
   have old : ∀ (p : Nat) (so1 : SO), (σ.set i so')[p]? = some so1 → jw so1 → ∃ so1', σ[p]? = some so1' ∧ jw so1' := fun p so1 h1 l1 => by
    clear hx h2; rcases cZ h1 with ⟨rfl, _, rfl⟩ | ⟨_, h1⟩
    ·exact ⟨so, hi, hl.occ⟩
    ·exact ⟨so1, h1, l1⟩
   obtain ⟨x1, y1, z1⟩ := old p so1 h1 l1
   obtain ⟨x2, y2, z2⟩ := old q so2 h2 l2
   exact S.dist p q x1 x2 a1 m1 a2 m2 y1 z1 y2 z2 e1 e2 em
  sto := fun p so1 h1 => by
   rcases cZ h1 with ⟨rfl, _, rfl⟩ | ⟨hne, h1⟩
   ·exact ⟨a, m, hm, hx⟩
   ·obtain ⟨a1, m1, e1, k⟩ := S.sto p so1 h1
    refine ⟨a1, m1, e1, ?_⟩
    cases so1 with
    | dead => trivial
    | lock l =>
     obtain ⟨b1, b3, b4, vs, n, b5, b6⟩ := k
     refine ⟨b1, b3, b4, vs, n, ne _ _ ?_ b5, b6⟩
     clear hs hx k1 hΦ hg hL hcell ne; rintro rfl
     exact hne (S.dist i p so (.lock l) _ _ _ _ hi hl.occ h1 trivial hm e1 b1.symm)
    | lst l =>
     obtain ⟨b1, b2, b3, b4, vs, n, b5, b6⟩ := k
     refine ⟨b1, b2, b3, b4, vs, n, ne _ _ ?_ b5, b6⟩
     clear hs hx k1 hΦ hg hL hcell ne; rintro rfl
     exact hne (S.dist i p so (.lst l) _ _ _ _ hi hl.occ h1 trivial hm e1 b1.symm)
    | inst c fs =>
     obtain ⟨b1, b2, b3, b4, mm, b5, b6⟩ := k
     refine ⟨b1, b2, b3, b4, mm, gc b5 ?_ hs, b6⟩
     clear hs hx k1 hΦ hg hL hcell ne; rintro rfl
     exact hne (S.dist i p so (.inst c fs) _ _ _ _ hi hl.occ h1 trivial hm e1 rfl)
  loc := by
   obtain ⟨mm, h1, h2⟩ := S.loc
   exact ⟨mm, oT h1 (Ne.symm hL) hs, h2⟩
  cel := fun x d hx' hk => let ⟨c, v, a1, a2, a3⟩ := S.cel x d hx' hk; ⟨c, v, a1, bq a2 (hcell _ _ a2) hs, a3⟩
  celW := fun x hf hk => let ⟨c, v, a1, a2, a3⟩ := S.celW x hf hk; ⟨c, v, a1, bq a2 (hcell _ _ a2) hs, a3⟩ }
theorem St.setLst (S : St h₀ C env g μ ρ σ τ s) {i : Nat} {l l' : List D} {a : Addr} {m : Addr} {h' : Heap} {vs' : Array Value} {n' : Nat} (hi : σ[i]? = some (.lst l)) (hm : μ[i]? = some (a, m))
  (hs : Heap.ExtBut a s.heap h') (ho : h'.get? a = some (ao vs' n')) (hr : RdAll μ g vs'.toList l') (t : Nat) : St h₀ C env g μ ρ (σ.set i (.lst l')) τ { s with heap := h', toks := t } := by
 have k1 := S.stoAt hi hm
 obtain ⟨b1, b2, b3, b4, vs, n, b5, b6⟩ := k1
 clear b5; subst b1
 exact S.turn (so' := .lst l') hi trivial hm hs ⟨rfl, b2, b3, b4, vs', n', ho, hr⟩ t
theorem St.freeze (S : St h₀ C env g μ ρ σ τ s) {i : Nat} {l : List D} (hi : σ[i]? = some (.lst l)) {v : Value} (hv : Rd μ g v (.ptr i)) :
  ∃ g', St h₀ C env g' μ ρ (σ.set i .dead) ((v, .lst l) :: τ) s := by
 obtain ⟨a, m, e1, k1⟩ := S.sto i _ hi
 obtain ⟨b1, b2, b3, b4, vs, n, b5, b6⟩ := k1
 subst b1
 have S₁ := S.turn hi trivial e1 (h' := s.heap) (so' := .dead) (fun b o _ h => h) trivial s.toks
 refine ⟨_, (S₁.fix (a := m) b5 b2 b4 (by intro v e; cases e) ?_).put ?_⟩
 ·intro j so x m' hj hlj hmj em
  clear b2 b3 b4 b5; subst em
  rcases cZ hj with ⟨_, _, rfl⟩ | ⟨hne, hj⟩
  ·cases hlj
  ·exact hne (S.dist i j _ so m' m' x m' hi trivial hj hlj e1 hmj rfl)
 ·skip
  obtain ⟨a', m', c1, c2⟩ := hv
  rw [e1] at c1
  cases c1
  exact ⟨m, vs, n, c2, aP .., b6.mono (bV (.inl b3)) (List.prefix_refl _)⟩
theorem bT : ∀ {ρ : aj} {x y : Str} {d e : D}, (cq ρ x d).lookup y = some e → (y = x ∧ e = d) ∨ (y ≠ x ∧ ρ.lookup y = some e)
 | [], x, y, d, e, h => by
  simp only [cq, List.lookup_cons, List.lookup_nil] at h
  cases hy : y == x with
  | true => rw [hy] at h; cases h; exact .inl ⟨eq_of_beq hy, rfl⟩
  | false => rw [hy] at h; cases h
 | (z, w) :: r, x, y, d, e, h => by
  unfold cq at h
  split at h
  ·rename_i hz
   have hz := eq_of_beq hz
   subst hz
   rw [List.lookup_cons] at h
   cases hy : y == z with
   | true => rw [hy] at h; cases h; exact .inl ⟨eq_of_beq hy, rfl⟩
   | false =>
    rw [hy] at h
    have hne : y ≠ z := by
     intro e
     rw [e, beq_self_eq_true] at hy
     cases hy
    refine .inr ⟨hne, ?_⟩
    rw [List.lookup_cons, hy]; exact h
  ·rename_i hz
   rw [List.lookup_cons] at h
   rw [List.lookup_cons]
   cases hy : y == z with
   | true =>
    rw [hy] at h
    refine .inr ⟨?_, h⟩
    clear h; rintro rfl
    rw [eq_of_beq hy, beq_self_eq_true] at hz
    exact hz rfl
   | false => rw [hy] at h; exact bT h
theorem St.setLocal (S : St h₀ C env g μ ρ σ τ s) {x : Str} {v : Value} {d : D} {h' : Heap} (hk : env.kindOf x = some .local) (hv : Rd μ g v d)
  (hn : ∀ m, s.heap.Ns env.locals m → h'.Ns env.locals (fun y => if y = x then some v else m y)) (hs : Heap.ExtBut env.locals s.heap h') (t : Nat) :
  St h₀ C env g μ (cq ρ x d) σ τ { s with heap := h', toks := t } := by
 have ne : ∀ b o, b ≠ env.locals → s.heap.get? b = some o → h'.get? b = some o := hs
 obtain ⟨m, hm1, hm2⟩ := S.loc
 exact { S with
  phi := fun b o h => ne _ _ (by rintro rfl; rw [S.ownΦ] at h; cases h) (S.phi b o h)
  imm := fun b o h => ne _ _ (by rintro rfl; rw [S.owng] at h; cases h) (S.imm b o h)
  sto := fun p so1 h1 => by
   obtain ⟨a1, m1, e1, k⟩ := S.sto p so1 h1
   refine ⟨a1, m1, e1, ?_⟩
   cases so1 with
   | dead => trivial
   | lock l =>
    obtain ⟨b1, b3, b4, vs, n, b5, b6⟩ := k
    clear e1; subst b1
    exact ⟨rfl, b3, b4, vs, n, ne _ _ b4 b5, b6⟩
   | lst l =>
    obtain ⟨b1, b2, b3, b4, vs, n, b5, b6⟩ := k
    clear e1; subst b1
    exact ⟨rfl, b2, b3, b4, vs, n, ne _ _ b4 b5, b6⟩
   | inst c fs =>
    obtain ⟨b1, b2, b3, b4, mm, b5, b6⟩ := k
    exact ⟨b1, b2, b3, b4, mm, gc b5 b3 hs, b6⟩
  loc := by
   refine ⟨_, hn m hm1, fun y e hy hky => ?_⟩
   clear hk hn; rcases bT hy with ⟨rfl, rfl⟩ | ⟨hne, hy⟩
   ·exact ⟨v, by simp, hv⟩
   ·obtain ⟨w, a1, a2⟩ := hm2 y e hy hky
    exact ⟨w, by simp [hne, a1], a2⟩
  cel := fun y e hy hky => by
   clear hv hn; rcases bT hy with ⟨rfl, rfl⟩ | ⟨hne, hy⟩
   ·rw [hk] at hky; rcases hky with h | h <;> cases h
   ·obtain ⟨c, v, a1, a2, a3⟩ := S.cel y e hy hky
    exact ⟨c, v, a1, bq a2 (by rintro rfl; exact dh a2 hm1) hs, a3⟩
  celW := fun y hf hky => by
   obtain ⟨c, v, a1, a2, a3⟩ := S.celW y hf hky
   exact ⟨c, v, a1, bq a2 (by rintro rfl; exact dh a2 hm1) hs, a3⟩ }
theorem St.setCell (S : St h₀ C env g μ ρ σ τ s) {x : Str} {v : Value} {d : D} {c : Addr} {h' : Heap} (hf0 : env.func.isSome = true) (hk : env.kindOf x = some .cell) (hv : Rd μ g v d) (hc : env.cells.lookup x = some c)
  (hn : h'.IsCell c (some v)) (hs : Heap.ExtBut c s.heap h') (t : Nat) : St h₀ C env g μ (cq ρ x d) σ τ { s with heap := h', toks := t } := by
 have ne : ∀ b o, b ≠ c → s.heap.get? b = some o → h'.get? b = some o := hs
 obtain ⟨c', v₀, hw1, hw2, hw3, hw4⟩ := S.celW x hf0 hk
 rw [hc] at hw1
 cases hw1
 obtain ⟨m, hm1, hm2⟩ := S.loc
 exact { S with
  phi := fun b o h => ne _ _ (by rintro rfl; rw [hw3] at h; cases h) (S.phi b o h)
  imm := fun b o h => ne _ _ (by rintro rfl; rw [hw4] at h; cases h) (S.imm b o h)
  sto := fun p so1 h1 => by
   obtain ⟨a1, m1, e1, k⟩ := S.sto p so1 h1
   refine ⟨a1, m1, e1, ?_⟩
   cases so1 with
   | dead => trivial
   | lock l =>
    obtain ⟨b1, b3, b4, vs, n, b5, b6⟩ := k
    clear e1; subst b1
    exact ⟨rfl, b3, b4, vs, n, ne _ _ (by rintro rfl; exact gD hw2 b5) b5, b6⟩
   | lst l =>
    obtain ⟨b1, b2, b3, b4, vs, n, b5, b6⟩ := k
    clear e1; subst b1
    exact ⟨rfl, b2, b3, b4, vs, n, ne _ _ (by rintro rfl; exact gD hw2 b5) b5, b6⟩
   | inst c fs =>
    obtain ⟨b1, b2, b3, b4, mm, b5, b6⟩ := k
    exact ⟨b1, b2, b3, b4, mm, gc b5 (by rintro rfl; exact dh hw2 b5.ns) hs, b6⟩
  loc := by
   refine ⟨m, oT hm1 (by rintro rfl; exact dh hw2 hm1) hs, fun y e hy hky => ?_⟩
   clear hv hc; rcases bT hy with ⟨rfl, rfl⟩ | ⟨hne, hy⟩
   ·rw [hk] at hky; cases hky
   ·exact hm2 y e hy hky
  cel := fun y e hy hky => by
   clear hk; rcases bT hy with ⟨rfl, rfl⟩ | ⟨hne, hy⟩
   ·exact ⟨c, v, hc, hn, hv⟩
   ·obtain ⟨c1, v1, a1, a2, a3⟩ := S.cel y e hy hky
    exact ⟨c1, v1, a1, bq a2 (by rintro rfl; exact hne (S.celD _ _ _ a1 hc)) hs, a3⟩
  celW := fun y hf hky => by
   obtain ⟨c1, v1, a1, a2, a3⟩ := S.celW y hf hky
   by_cases hyx : y = x
   ·clear hk; subst hyx
    rw [hc] at a1
    clear a2; cases a1
    exact ⟨_, some v, hc, hn, a3⟩
   ·exact ⟨c1, v1, a1, bq a2 (by rintro rfl; exact hyx (S.celD _ _ _ a1 hc)) hs, a3⟩ }
end
section
set_option maxRecDepth 4000
noncomputable abbrev PW : Program := PySem.Challenge.pw_sh0075_01
structure Room (n : Nat) (A : Around) : Prop where
 hd : A.handled = none
 dp : A.depth + 3 * n + 3 ≤ recursionLimit
 un : A.units + 16 * n + 100 < cLine
theorem Room.le {n k : Nat} {A : Around} (r : Room n A) (h : k ≤ n) : Room k A := ⟨r.hd, by have := r.dp; lia, by have := r.un; lia⟩
noncomputable def be : Value → Shared → Prop := fun _ _ => False
noncomputable def PV (h₀ : Heap) (C : Cx) (env : Env) (ρ : aj) (σ : aa) (τ : List (Value × D)) (d : D) (v : Value) (s : Shared) : Prop :=
 ∃ g μ, St h₀ C env g μ ρ σ ((v, d) :: τ) s
noncomputable def PU (h₀ : Heap) (C : Cx) (env : Env) (ρ : aj) (σ : aa) (τ : List (Value × D)) (s : Shared) : Prop :=
 ∃ g μ, St h₀ C env g μ ρ σ τ s
theorem PV.of {h₀ : Heap} {C : Cx} {env : Env} {g : PH} {μ : Mu} {ρ : aj} {σ : aa} {τ : List (Value × D)} {d : D} {v : Value} {s : Shared} (h : St h₀ C env g μ ρ σ ((v, d) :: τ) s) : PV h₀ C env ρ σ τ d v s := ⟨g, μ, h⟩
noncomputable def pN (h : Heap) (L : Addr) : List (Addr × Obj) := (List.range h.objs.size).filterMap fun a => if a = L then none else (h.get? a).map fun o => (a, o)
theorem qH {h : Heap} {L a : Addr} {o : Obj} (ha : h.get? a = some o) (hL : a ≠ L) : (a, o) ∈ pN h L :=
 List.mem_filterMap.mpr ⟨a, List.mem_range.mpr (Heap.lt_size ha), by simp [hL, ha]⟩
theorem kg {h : Heap} {L : Addr} {p : Addr × Obj} (hp : p ∈ pN h L) : h.get? p.1 = some p.2 ∧ p.1 ≠ L := by
 obtain ⟨a, _, e⟩ := List.mem_filterMap.mp hp
 split at e
 ·exact aW e
 ·revert e; refine mE fun o e1 e2 => ?_
  clear hp; subst e2
  exact ⟨e1, by assumption⟩
noncomputable def noHeap : Heap := {}
theorem i5 (a : Addr) : noHeap.get? a = none := by
 unfold noHeap Heap.get?
 simp
section
variable {h₀ : Heap} {C : Cx} {env : Env} {g : PH} {μ : Mu} {ρ : aj} {σ : aa} {τ : List (Value × D)} {s : Shared} {w : World} {A : Around} {n : Nat}
theorem St.frm (S : St h₀ C env g μ ρ σ τ s) : ∃ m, s.heap.Ns env.locals m ∧ Fr noHeap env.locals s.heap m ∧ News noHeap env.locals s.heap (pN s.heap env.locals) := by
 obtain ⟨m, h1, _⟩ := S.loc
 exact ⟨m, h1, ⟨h1, fun b o e => (by rw [i5] at e; cases e), Nat.zero_le _⟩, fun p hp => ⟨(kg hp).1, (kg hp).2, i5 _⟩⟩
theorem St.moreL (S : St h₀ C env g μ ρ σ τ s) {h' : Heap} (hk : ∀ b o, b ≠ env.locals → s.heap.get? b = some o → h'.get? b = some o) (hn : ∀ m, s.heap.Ns env.locals m → ∃ m', h'.Ns env.locals m' ∧ ∀ x, m' x = m x) (t : Nat) :
  St h₀ C env g μ ρ σ τ { s with heap := h', toks := t } := by
 have hs : Heap.ExtBut env.locals s.heap h' := hk
 obtain ⟨m, hm1, hm2⟩ := S.loc
 exact { S with
  phi := fun b o h => hk _ _ (by rintro rfl; rw [S.ownΦ] at h; cases h) (S.phi b o h)
  imm := fun b o h => hk _ _ (by rintro rfl; rw [S.owng] at h; cases h) (S.imm b o h)
  sto := fun p so1 h1 => by
   obtain ⟨a1, m1, e1, k⟩ := S.sto p so1 h1
   refine ⟨a1, m1, e1, ?_⟩
   cases so1 with
   | dead => trivial
   | lock l =>
    obtain ⟨b1, b3, b4, vs, n, b5, b6⟩ := k
    clear e1; subst b1
    exact ⟨rfl, b3, b4, vs, n, hk _ _ b4 b5, b6⟩
   | lst l =>
    obtain ⟨b1, b2, b3, b4, vs, n, b5, b6⟩ := k
    clear e1; subst b1
    exact ⟨rfl, b2, b3, b4, vs, n, hk _ _ b4 b5, b6⟩
   | inst c fs =>
    obtain ⟨b1, b2, b3, b4, mm, b5, b6⟩ := k
    exact ⟨b1, b2, b3, b4, mm, gc b5 b3 hs, b6⟩
  loc := by
   obtain ⟨m', hm', he⟩ := hn m hm1
   exact ⟨m', hm', fun x d hx hkx => let ⟨v, a1, a2⟩ := hm2 x d hx hkx; ⟨v, (he x).trans a1, a2⟩⟩
  cel := fun x d hx hkx => by
   obtain ⟨c, v, a1, a2, a3⟩ := S.cel x d hx hkx
   exact ⟨c, v, a1, bq a2 (by rintro rfl; exact dh a2 hm1) hs, a3⟩
  celW := fun x hf hkx => by
   obtain ⟨c, v, a1, a2, a3⟩ := S.celW x hf hkx
   exact ⟨c, v, a1, bq a2 (by rintro rfl; exact dh a2 hm1) hs, a3⟩ }
theorem St.ofFr (S : St h₀ C env g μ ρ σ τ s) {h' : Heap} {m : Str → Option Value} (hm : s.heap.Ns env.locals m) (F : Fr noHeap env.locals h' m) {more : List (Addr × Obj)} (N : News noHeap env.locals h' (more ++ pN s.heap env.locals)) (t : Nat) :
  St h₀ C env g μ ρ σ τ { s with heap := h', toks := t } :=
 S.moreL (fun b o hb e => (N (b, o) (List.mem_append_right _ (qH e hb))).1) (fun m' hm' => ⟨m, F.ns, fun x => by
  obtain ⟨o, es, ep, e1, e2, _, e3⟩ := hm
  obtain ⟨o', es', ep', f1, f2, _, f3⟩ := hm'
  rw [e1] at f1
  cases f1
  rw [e2] at f2
  cases f2
  exact (e3 x).symm.trans (f3 x)⟩) t
theorem St.newLst (S : St h₀ C env g μ ρ σ τ s) {l : Addr} {vs : Array Value} {k : Nat} {ds : List D} {s₀ : Shared} (ho : s.heap.get? l = some (ao vs k)) (hΦ : C.Φ l = none) (hl : l ≠ env.locals)
  (hs : ∀ (i : Nat) (so : SO) (x m : Addr), σ[i]? = some so → jw so → μ[i]? = some (x, m) → m ≠ l) (hg : g l = none) (h : RdAll μ g vs.toList ds) {τ' : List (Value × D)} (ht : ∀ p ∈ τ', p ∈ τ) : PV h₀ C env ρ σ τ' (.lst ds) (.ref l) s := by
 refine .of (((S.fix ho hΦ hl (by intro v e; cases e) hs).sub ht).put ?_)
 exact ⟨l, vs, k, rfl, aP .., h.mono (bV (.inl hg)) (List.prefix_refl _)⟩
theorem St.newPtr (S : St h₀ C env g μ ρ σ τ s) {l : Addr} {vs : Array Value} {k : Nat} {ds : List D} (ho : s.heap.get? l = some (ao vs k)) (hΦ : C.Φ l = none) (hl : l ≠ env.locals)
  (hs : ∀ (i : Nat) (so : SO) (x m : Addr), σ[i]? = some so → jw so → μ[i]? = some (x, m) → m ≠ l) (hg : g l = none) (h : RdAll μ g vs.toList ds) {τ' : List (Value × D)} (ht : ∀ p ∈ τ', p ∈ τ) : PV h₀ C env ρ (σ ++ [.lst ds]) τ' (.ptr σ.length) (.ref l) s := by
 refine .of (((S.newSo (a := l) (m := l) (so := .lst ds) ⟨rfl, hΦ, hg, hl, vs, k, ho, h⟩ hs).sub ht).put ?_)
 exact ⟨l, l, by rw [S.len, List.getElem?_concat_length], rfl⟩
theorem St.fresh (S : St h₀ C env g μ ρ σ τ s) {l : Addr} (hn : s.heap.get? l = none) : C.Φ l = none ∧ g l = none ∧ l ≠ env.locals ∧ ∀ (i : Nat) (so : SO) (x m : Addr), σ[i]? = some so → jw so → μ[i]? = some (x, m) → m ≠ l := by
 refine ⟨?_, ?_, ?_, ?_⟩
 ·cases h : C.Φ l with
  | none => rfl
  | some o => rw [S.phi _ _ h] at hn; cases hn
 ·cases h : g l with
  | none => rfl
  | some o => rw [S.imm _ _ h] at hn; cases hn
 ·rintro rfl
  obtain ⟨m, ⟨o, es, ep, h1, _⟩, _⟩ := S.loc
  rw [hn] at h1
  exact aW h1
 ·rintro i so x m hi hl hm rfl
  have h2 := S.stoAt hi hm
  cases so with
  | dead => cases hl
  | lock l => obtain ⟨a1, a3, a4, vs, n, a5, a6⟩ := h2; subst a1; rw [hn] at a5; cases a5
  | lst l => obtain ⟨a1, a2, a3, a4, vs, n, a5, a6⟩ := h2; subst a1; rw [hn] at a5; cases a5
  | inst c fs => obtain ⟨a1, a2, a3, a4, mm, ⟨o, es, ep, a5, _⟩, a6⟩ := h2; rw [hn] at a5; cases a5
theorem St.newL (f : Fn) (p : Pos) (S : St h₀ C env g μ ρ σ τ s) {h' : Heap} {t : Nat} (S' : St h₀ C env g μ ρ σ τ { s with heap := h', toks := t }) {l : Addr} {vs : Array Value} {k : Nat} {ds : List D} (hn : s.heap.get? l = none)
  (ho : h'.get? l = some (ao vs k)) (h : RdAll μ g vs.toList ds) {τ' : List (Value × D)} (ht : ∀ p ∈ τ', p ∈ τ) :
  PV h₀ C env ρ (aJ f p σ ds).2 τ' (aJ f p σ ds).1 (.ref l) { s with heap := h', toks := t } := by
 obtain ⟨a1, a2, a3, a4⟩ := S.fresh hn
 unfold aJ
 split
 ·exact S'.newPtr ho a1 a3 a4 a2 h ht
 ·exact S'.newLst (s₀ := s) ho a1 a3 a4 a2 h ht
theorem bg (h : Heap) : h.get? h.objs.size = none := by
 cases e : h.get? h.objs.size with
 | none => rfl
 | some o => exact absurd (Heap.lt_size e) (Nat.lt_irrefl _)
theorem aU {t : Sem Value} {d : D} {ρ' : aj} {σ' : aa} {τ' : List (Value × D)} {Q : Value → Shared → Prop} (h : wpAny (model PW w) A t (PV h₀ C env ρ' σ' τ' d) be s)
  (hQ : ∀ v s' g' μ', St h₀ C env g' μ' ρ' σ' ((v, d) :: τ') s' → Q v s') {E : Value → Shared → Prop} : wpAny (model PW w) A t Q E s :=
 wpAny_mono h (fun v s' ⟨g', μ', S'⟩ => hQ v s' g' μ' S') fun _ _ e => e.elim
theorem xB {so : SO} {l : List D} (h : rE so = some l) : so = .lst l ∨ so = .lock l := by
 cases so <;> cases h
 ·exact .inl rfl
 ·exact .inr rfl
theorem jb {i : Nat} {l : List D} (h : lstAt σ i = some l) : aF σ (.ptr i) = some l := by
 show (σ[i]?).bind rE = _
 rw [bY h]; rfl
theorem St.seqOf_lst (S : St h₀ C env g μ ρ σ τ s) {v : Value} {d : D} {ds : List D} (hv : Rd μ g v d) (hl : aF σ d = some ds) : ∃ a vs n, v = .ref a ∧ s.heap.get? a = some (ao vs n) ∧ RdAll μ g vs.toList ds := by
 revert hl; refine oE (fun h => ?_) fun h => ?_
 ·cases ek h
  obtain ⟨a, vs, n, h1, h2, h3⟩ := hv
  exact ⟨a, vs, n, h1, S.imm _ _ h2, h3⟩
 ·revert h; refine bE fun i hi => ?_
  refine bE fun so hs h8 => ?_
  obtain rfl := cB hi
  obtain ⟨a, m, h1, h2⟩ := hv
  have k := S.stoAt hs h1
  clear hs; rcases xB h8 with rfl | rfl
  ·obtain ⟨b1, b2, b3, b4, vs, n, b5, b6⟩ := k
   exact ⟨a, vs, n, h2, b5, b6⟩
  ·obtain ⟨b1, b3, b4, vs, n, b5, b6⟩ := k
   exact ⟨a, vs, n, h2, b5, b6.1⟩
end
end
section
set_option maxRecDepth 4000
section
variable {h₀ : Heap} {C : Cx} {env : Env} {g : PH} {μ : Mu} {ρ : aj} {σ : aa} {τ : List (Value × D)} {s : Shared} {w : World} {A : Around} {n : Nat} {a b : Value} {da db d : D} {f : Fn} {p : Pos}
theorem lz {α : Type} {x y : α} {τ : List α} : ∀ q ∈ τ, q ∈ x :: y :: τ := fun _ hq => List.mem_cons_of_mem _ (List.mem_cons_of_mem _ hq)
theorem dk {α : Type} {x : α} {τ : List α} : ∀ q ∈ τ, q ∈ x :: τ := fun _ hq => List.mem_cons_of_mem _ hq
theorem ku {α : Type} {τ : List α} : ∀ q ∈ τ, q ∈ τ := fun _ hq => hq
theorem St.int (S : St h₀ C env g μ ρ σ τ s) (i : Int) (t k : Nat) {τ' : List (Value × D)} (ht : ∀ p ∈ τ', p ∈ τ) : PV h₀ C env ρ σ τ' (.int i) (.int i t) { s with toks := k } :=
 .of (((S.toks k).sub ht).put ⟨t, rfl⟩)
theorem St.boolV (S : St h₀ C env g μ ρ σ τ s) (i : Bool) {τ' : List (Value × D)} (ht : ∀ p ∈ τ', p ∈ τ) : PV h₀ C env ρ σ τ' (.bool i) (.bool i) s :=
 .of ((S.sub ht).put rfl)
theorem je {a b : Int} (ha : small a = true) (hb : small b = true) : IntMulOk a b := by
 have h1 := of_decide_eq_true ha
 have h2 := of_decide_eq_true hb
 refine IntMulOk.of_bits (Nat.le_trans (intBits_le_64 ?_ ?_) (by decide)) (Nat.le_trans (intBits_le_64 ?_ ?_) (by decide)) <;> lia
theorem rT (S : St h₀ C env g μ ρ σ τ s) {op : Operator} {x y z : Int} {t u : Tok} {τ' : List (Value × D)} (ht : ∀ p ∈ τ', p ∈ τ) (h : fh op x y = some z) :
  wpAny (model PW w) A (binaryOp op (.int x t) (.int y u)) (PV h₀ C env ρ σ τ' (.int z)) be s := by
 cases op <;> first | exact aW h | skip
 ·cases h; exact add_int (S.int _ _ _ ht)
 ·cases h; exact sub_int (S.int _ _ _ ht)
 ·obtain ⟨_, hs, rfl⟩ := Option.map_eq_some_iff.mp h
  obtain ⟨h1, h2⟩ := Bool.and_eq_true_iff.mp (bp hs)
  exact mul_int (S.int _ _ _ ht) (je h1 h2)
 ·obtain ⟨_, hb, rfl⟩ := Option.map_eq_some_iff.mp h
  exact mod_int' (by simpa using bp hb) (S.int _ _ _ ht)
 ·obtain ⟨_, hb, rfl⟩ := Option.map_eq_some_iff.mp h
  exact rshift_int (of_decide_eq_true (bp hb)) (S.int _ _ _ ht)
 ·cases h; exact and_int (S.int _ _ _ ht)
 ·obtain ⟨_, hb, rfl⟩ := Option.map_eq_some_iff.mp h
  obtain ⟨h1, h2⟩ := Bool.and_eq_true_iff.mp (bp hb)
  exact floordiv_int (by simpa using h1) (S.int _ _ _ ht) (.inl (PyProof.noPylong_small (of_decide_eq_true h2)))
theorem ql (S : St h₀ C env g μ ρ σ τ s) {x y : Int} {t u : Tok} {τ' : List (Value × D)} (ht : ∀ p ∈ τ', p ∈ τ) :
  wpAny (model PW w) A (inplaceOp .Add (.int x t) (.int y u)) (PV h₀ C env ρ σ τ' (.int (x + y))) be s := wpAny_iadd_int (S.int _ _ _ ht)
theorem St.str (S : St h₀ C env g μ ρ σ τ s) {x : Str} {l : List Nat} (hx : x = ⟨l.toArray⟩) (ha : ar l = true) (t k : Nat) {τ' : List (Value × D)} (ht : ∀ p ∈ τ', p ∈ τ) : PV h₀ C env ρ σ τ' (.str l) (.str x t) { s with toks := k } :=
 .of (((S.toks k).sub ht).put ⟨ha, t, by rw [hx]⟩)
theorem oA (x y : List Nat) : (⟨x.toArray⟩ : Str) ++ ⟨y.toArray⟩ = ⟨(x ++ y).toArray⟩ := by
 show Str.append _ _ = _
 simp [Str.append]
theorem kf {x y : List Nat} (hx : ar x = true) (hy : ar y = true) : ar (x ++ y) = true := by simp only [ar, List.all_append, Bool.and_eq_true] at *; exact ⟨hx, hy⟩
theorem dL : sizeLine = 16777216 := by decide
theorem qJ (S : St h₀ C env g μ ρ σ τ s) {x y : List Nat} {t u : Tok} {τ' : List (Value × D)} (ht : ∀ p ∈ τ', p ∈ τ) (hx : ar x = true) (hy : ar y = true) (h : x.length + y.length ≤ cC) :
  wpAny (model PW w) A (binaryOp .Add (.str ⟨x.toArray⟩ t) (.str ⟨y.toArray⟩ u)) (PV h₀ C env ρ σ τ' (.str (x ++ y))) be s := by
 refine PyProof.Rows.add_str (fun t' tk => S.str (oA x y) (kf hx hy) t' tk ht) ?_
 rw [dL]
 simpa [Str.length, cC] using h
theorem nG (S : St h₀ C env g μ ρ σ τ s) {x y : List Nat} {t u : Tok} {τ' : List (Value × D)} (ht : ∀ p ∈ τ', p ∈ τ) (hx : ar x = true) (hy : ar y = true) (h : x.length + y.length ≤ cC) :
  wpAny (model PW w) A (inplaceOp .Add (.str ⟨x.toArray⟩ t) (.str ⟨y.toArray⟩ u)) (PV h₀ C env ρ σ τ' (.str (x ++ y))) be s := by
 refine PyProof.Rows.iadd_str (fun t' tk => S.str (oA x y) (kf hx hy) t' tk ht) ?_
 rw [dL]
 simpa [Str.length, cC] using h
theorem qK (S : St h₀ C env g μ ρ σ τ s) {x y : List D} {ax ay : Addr} {vx vy : Array Value} {nx ny : Nat} {τ' : List (Value × D)} (ht : ∀ p ∈ τ', p ∈ τ)
  (hx : s.heap.get? ax = some (ao vx nx)) (rx : RdAll μ g vx.toList x) (hy : s.heap.get? ay = some (ao vy ny)) (ry : RdAll μ g vy.toList y) (h : x.length + y.length ≤ cC) :
  wpAny (model PW w) A (binaryOp .Add (.ref ax) (.ref ay)) (fun v s' => PV h₀ C env ρ (aJ f p σ (x ++ y)).2 τ' (aJ f p σ (x ++ y)).1 v s') be s := by
 obtain ⟨m, hm, F, N⟩ := S.frm
 refine add_arrays F N ⟨_, hx, rfl, _, rfl⟩ ⟨_, hy, rfl, _, rfl⟩ (fun h' F' N' => ?_) ?_
 ·have S' := S.ofFr hm F' (more := [_]) N' s.toks
  exact S.newL f p S' (bg _) (N' _ (List.mem_cons_self ..)).1 (by simpa using rx.append ry) ht
 ·have e1 := rx.length
  have e2 := ry.length
  rw [dL]
  simp only [Array.length_toList, cC] at e1 e2 h
  lia
theorem g6 (v : Value) (k : Nat) (acc : Array Value) : (List.foldl (fun x1 x2 => x1 ++ x2) acc (List.replicate k #[v])).toList = acc.toList ++ List.replicate k v := by
 induction k generalizing acc with
 | zero => simp
 | succ k ih => rw [List.replicate_succ, List.foldl_cons, ih, List.replicate_succ]; simp
theorem RdAll.rep {v : Value} (h : Rd μ g v d) : ∀ k, RdAll μ g (List.replicate k v) (List.replicate k d)
 | 0 => trivial
 | k + 1 => ⟨h, RdAll.rep h k⟩
theorem qf (S : St h₀ C env g μ ρ σ τ s) {x : D} {y : Int} {u : Tok} {ax : Addr} {vx : Array Value} {nx : Nat} {τ' : List (Value × D)} (ht : ∀ p ∈ τ', p ∈ τ)
  (hx : s.heap.get? ax = some (ao vx nx)) (rx : RdAll μ g vx.toList [x]) (h : 0 ≤ y ∧ y < 16777216) :
  wpAny (model PW w) A (binaryOp .Mult (.ref ax) (.int y u)) (fun v s' => PV h₀ C env ρ (aJ f p σ (List.replicate y.toNat x)).2 τ' (aJ f p σ (List.replicate y.toNat x)).1 v s') be s := by
 obtain ⟨m, hm, F, N⟩ := S.frm
 obtain ⟨l⟩ := vx
 cases l with
 | nil => cases rx
 | cons v r =>
  cases r with
  | cons v' r' => cases rx.length
  | nil =>
   have hv : Rd μ g v x := by exact rx.1
   refine mul_list F N hx (by lia) (by lia) (by simp; lia) (fun h' F' N' => ?_)
   have S' := S.ofFr hm F' (more := [_]) N' s.toks
   refine S.newL f p S' (bg _) (N' _ (List.mem_cons_self ..)).1 ?_ ht
   simp only [List.isEmpty_toArray, List.isEmpty_cons, Bool.false_eq_true, if_false]
   rw [g6]
   simpa using RdAll.rep hv y.toNat
theorem nC {op : Operator} {u : Unit} (h : gd (j7 op) = some u) : op = .Add := by cases op <;> first | rfl | (cases bp h)
theorem za {op : Operator} {u : Unit} (h : gd (sB op) = some u) : op = .Mult := by cases op <;> first | rfl | (cases bp h)
theorem Fg {l : List D} {d : D} (h : jz l = some d) : l = [d] := by
 revert h; refine bE fun _ h1 h2 => ?_
 have h1 := bp h1
 rcases l with _ | ⟨x, _ | ⟨y, r⟩⟩
 ·exact aW h2
 ·clear h1; cases h2; rfl
 ·simp at h1
theorem tu (S : St h₀ C env g μ ρ σ τ s) {op : Operator} {τ' : List (Value × D)} (ht : ∀ p ∈ τ', p ∈ τ) (ha : Rd μ g a da) (hb : Rd μ g b db) (h : aB op σ da db = some d) :
  wpAny (model PW w) A (binaryOp op a b) (PV h₀ C env ρ (jC f p σ d).2 τ' (jC f p σ d).1) be s := by
 revert h; refine oE (fun h1 => ?_) fun h => ?_
 ·revert h1; refine bE fun x hx => ?_
  refine bE fun y hy h3 => ?_
  obtain ⟨z, hz, rfl⟩ := Option.map_eq_some_iff.mp h3
  obtain rfl := aH hx
  obtain rfl := aH hy
  obtain ⟨t, rfl⟩ := ha
  obtain ⟨u, rfl⟩ := hb
  exact rT S ht hz
 revert h; refine oE (fun h1 => ?_) fun h => ?_
 ·revert h1; refine bE fun _ ho h2 => ?_
  obtain rfl := nC ho
  revert h2; refine bE fun x hx => ?_
  refine bE fun y hy h4 => ?_
  obtain ⟨_, hz, rfl⟩ := Option.map_eq_some_iff.mp h4
  obtain rfl := aT hx
  obtain rfl := aT hy
  obtain ⟨h1, t, rfl⟩ := ha
  obtain ⟨h2, u, rfl⟩ := hb
  exact qJ S ht h1 h2 (of_decide_eq_true (bp hz))
 revert h; refine oE (fun h1 => ?_) fun h1 => ?_
 ·revert h1; refine bE fun _ ho h2 => ?_
  obtain rfl := nC ho
  revert h2; refine bE fun l hl => ?_
  refine bE fun r hr h4 => ?_
  obtain ⟨_, hz, rfl⟩ := Option.map_eq_some_iff.mp h4
  obtain ⟨ax, vx, nx, rfl, hx, rx⟩ := S.seqOf_lst ha hl
  obtain ⟨ay, vy, ny, rfl, hy, ry⟩ := S.seqOf_lst hb hr
  exact qK S ht hx rx hy ry (of_decide_eq_true (bp hz))
 ·revert h1; refine bE fun _ ho h2 => ?_
  obtain rfl := za ho
  revert h2; refine bE fun l hl => ?_
  refine bE fun x h1 h4 => ?_
  obtain rfl := Fg h1
  revert h4; refine bE fun y hy h5 => ?_
  obtain ⟨_, hz, rfl⟩ := Option.map_eq_some_iff.mp h5
  obtain rfl := aH hy
  obtain ⟨u, rfl⟩ := hb
  obtain ⟨ax, vx, nx, rfl, hx, rx⟩ := S.seqOf_lst ha hl
  exact qf S ht hx rx (of_decide_eq_true (bp hz))
end
end
section
set_option maxRecDepth 4000
noncomputable def ew (w : World) (h₀ : Heap) (t : Addr) (r : List (List Nat × D)) : Prop :=
 ∃ es n, h₀.get? t = some ⟨.type "dict", none, .dict es n, #[]⟩ ∧ KeysLit w.params es.toList ∧ (t == sysModules) = false ∧
  ∀ x : List Nat, match r.lookup x with
   | some d => ∃ i tk, d = .int i ∧ findBy Value.isStrOf es ⟨x.toArray⟩ = some (.int i tk)
   | none => findBy Value.isStrOf es ⟨x.toArray⟩ = none
section
variable {h₀ : Heap} {C : Cx} {env : Env} {g : PH} {μ : Mu} {ρ : aj} {σ : aa} {τ : List (Value × D)} {s : Shared} {w : World} {A : Around} {n : Nat} {a b : Value} {da db d : D} {f : Fn} {p : Pos}
noncomputable def tH (h : Heap) (n : Nat) (v : Value) (q : PyData) : Prop := (∃ as, Reads h v q as) ∧ q.canLay0 = true ∧ q.depth ≤ n
noncomputable def tG (h : Heap) (n : Nat) (vs : List Value) (qs : List PyData) : Prop := (∃ as, ReadsAll h vs qs as) ∧ PyData.canLayAll0 qs = true ∧ PyData.depthAll qs ≤ n
theorem iJ {h : Heap} {n : Nat} {F : D → Option PyData} (hF : ∀ (d : D) (v : Value) (q : PyData), Rd μ g v d → F d = some q → tH h n v q) : ∀ (l : List D) {vs : List Value} {qs : List PyData}, RdAll μ g vs l → fE F l = some qs → tG h n vs qs
 | [], [], qs, _, e => by
  refine ox_ e ?_
  exact ⟨⟨_, .nil⟩, by simp [PyData.canLayAll0], by simp [PyData.depthAll]⟩
 | d :: r, v :: vs, qs, hr, e => by
  revert e; refine bE fun q h1 e1 => ?_
  obtain ⟨qs', h2, rfl⟩ := Option.map_eq_some_iff.mp e1
  obtain ⟨⟨as, a1⟩, a2, a3⟩ := hF d v q hr.1 h1
  obtain ⟨⟨bs, b1⟩, b2, b3⟩ := iJ hF r hr.2 h2
  refine ⟨⟨_, .cons a1 b1⟩, by simp [PyData.canLayAll0, a2, b2], ?_⟩
  simp only [PyData.depthAll]
  lia
 | [], _ :: _, _, hr, _ => by cases hr
 | _ :: _, [], _, hr, _ => by cases hr
theorem rn {h : Heap} (n : Nat) {v : Value} {q : PyData} (hr : Rd μ g v d) (e : Fb d = some q) : tH h n v q := by
 revert e; refine oE (fun e1 => ?_) fun e1 => ?_
 ·obtain ⟨i, hi, rfl⟩ := Option.map_eq_some_iff.mp e1
  clear e1; obtain rfl := aH hi
  obtain ⟨t, rfl⟩ := hr
  exact ⟨⟨_, .int i t⟩, by simp [PyData.canLay0], by simp [PyData.depth]⟩
 ·obtain ⟨l, hl, rfl⟩ := Option.map_eq_some_iff.mp e1
  clear e1; obtain rfl := aT hl
  obtain ⟨ha, t, rfl⟩ := hr
  refine ⟨⟨_, .str _ t⟩, ?_, by simp [PyData.depth]⟩
  simp only [ar, List.all_eq_true, decide_eq_true_eq] at ha
  show (l.toArray).all (fun c => decide (c < 0x110000)) = true
  rw [List.all_toArray]
  simp only [List.all_eq_true, decide_eq_true_eq]
  exact fun x hx => Nat.lt_trans (ha x hx) (by decide)
theorem oq {h : Heap} (hg : ∀ a o, g a = some o → h.get? a = some o) : ∀ (n : Nat) (d : D) (v : Value) (q : PyData), Rd μ g v d → rP n d = some q → tH h n v q
 | 0, d, v, q, hr, e => rn 0 hr e
 | n + 1, d, v, q, hr, e => by
  revert e; refine oE (fun e1 => ?_) fun e1 => ?_
  ·exact rn _ hr e1
  revert e1; refine oE (fun e2 => ?_) fun e2 => ?_
  ·revert e2; refine bE fun l hl e3 => ?_
   obtain ⟨qs, h3, rfl⟩ := Option.map_eq_some_iff.mp e3
   obtain rfl := dM hl
   obtain ⟨a, vs, k, rfl, h1, h2⟩ := hr
   obtain ⟨⟨as, h4⟩, h5, h6⟩ := iJ (oq hg n) l h2 h3
   exact ⟨⟨_, .tuple (hg _ _ h1) rfl rfl h4⟩, by simpa [PyData.canLay0] using h5, by simp only [PyData.depth]; lia⟩
  ·revert e2; refine bE fun l hl e3 => ?_
   obtain ⟨qs, h3, rfl⟩ := Option.map_eq_some_iff.mp e3
   obtain rfl := ek hl
   obtain ⟨a, vs, k, rfl, h1, h2⟩ := hr
   obtain ⟨⟨as, h4⟩, h5, h6⟩ := iJ (oq hg n) l h2 h3
   exact ⟨⟨_, .list (hg _ _ h1) rfl rfl h4⟩, by simpa [PyData.canLay0] using h5, by simp only [PyData.depth]; lia⟩
theorem s5 (hg : ∀ a o, g a = some o → s.heap.get? a = some o) (R : Room n A) {x y : D} {c : Bool} {Q : Value → Shared → Prop} {E : Value → Shared → Prop} (hx : Rd μ g a x) (hy : Rd μ g b y) (h : DM x y = some c) :
  (Q (.bool c) s → wpAny (model PW w) A (compareOp .Eq a b) Q E s) ∧ (Q (.bool !c) s → wpAny (model PW w) A (compareOp .NotEq a b) Q E s) := by
 revert h; refine bE fun p h1 h' => ?_
 obtain ⟨q, h2, rfl⟩ := Option.map_eq_some_iff.mp h'
 obtain ⟨⟨as, r1⟩, c1, c2⟩ := oq hg _ _ _ _ hx h1
 obtain ⟨⟨bs, r2⟩, c3, c4⟩ := oq hg _ _ _ _ hy h2
 have s1 : SeqAt.shaped p = true := by simp only [SeqAt.shaped, c1, Bool.true_and, decide_eq_true_eq]; lia
 have s2 : SeqAt.shaped q = true := by simp only [SeqAt.shaped, c3, Bool.true_and, decide_eq_true_eq]; lia
 have hu : A.units < cLine := by have := R.un; lia
 exact ⟨fun hQ => eq_dataH r1 r2 s1 s2 (by have := R.un; lia) hQ, fun hQ => ne_dataH r1 r2 s1 s2 (by have := R.un; lia) hQ⟩
theorem qi {x y : Addr} {i1 i2 : Array Value} {n1 n2 : Nat} {Q : Value → Shared → Prop} {E : Value → Shared → Prop} (R : Room n A) (hx : s.heap.get? x = some (ao i1 n1)) (hy : s.heap.get? y = some (ao i2 n2)) (hne : (i1.size != i2.size) = true) (hQ : Q (.bool false) s) :
  wpAny (model PW w) A (compareOp .Eq (.ref x) (.ref y)) Q E s := P.eq_list_lengths hx hy hne (by have := R.un; lia) hQ
theorem lY (l : Addr) (items : Array Value) (n : Nat) (b : Addr) (items2 : Array Value) (n2 : Nat) (hc0 : (items.size != items2.size) = true) :
  Meets (Builtin.«list.__ne__» ⟨[.ref l, .ref b], []⟩) (fun _ R s => s.heap.get? l = some { cls := .type "list", dict := none, data := .seq items n, slots := #[] } ∧ s.heap.get? b = some { cls := .type "list", dict := none, data := .seq items2 n2, slots := #[] } ∧ R (.ok (.ret (Value.bool (CmpOp.NotEq == CmpOp.NotEq)))) { s with heap := s.heap, toks := s.toks }) :=
 .of_wp fun prog w A R s h => by obtain ⟨hp, g, d, tk, os⟩ := s; obtain ⟨hl, hb, h⟩ := h; have f1 := AutoSeq1.idx_int; have f2 := AutoSeq1.sub_tuple_tuple; have f3 := AutoSeq1.sub_list_list; have f4 := AutoSeq1.sub_tuple_list; have f5 := AutoSeq1.sub_list_tuple; wp_walk using AutoSeq1.wpAny_loadPart' hl, AutoSeq1.wpAny_loadPart' hb; exact ⟨_, rfl, h⟩
theorem qh {x y : Addr} {i1 i2 : Array Value} {n1 n2 : Nat} {Q : Value → Shared → Prop} {E : Value → Shared → Prop} (R : Room n A) (hx : s.heap.get? x = some (ao i1 n1)) (hy : s.heap.get? y = some (ao i2 n2)) (hne : (i1.size != i2.size) = true) (hQ : Q (.bool true) s) :
  wpAny (model PW w) A (compareOp .NotEq (.ref x) (.ref y)) Q E s :=
 richCompare_meets_room (op := .NotEq) ⟨_, hx, rfl⟩ ⟨_, hy, rfl⟩ F.slot_list_ne F.entry_list_ne (F.args_list_ne_2 _ _) (lY x i1 n1 y i2 n2 hne)
  ⟨hx, hy, show Value.bool true ≠ Value.notImplemented ∧ Q (.bool true) s from ⟨(fun x => nomatch x), hQ⟩⟩ (by have := R.un; lia)
end
end
section
set_option maxRecDepth 4000
theorem ru (x y : List Nat) : ((⟨x.toArray⟩ : Str) == ⟨y.toArray⟩) = (x == y) := by
 rw [Bool.eq_iff_iff]
 simp
theorem xw (x y : List Nat) : ((⟨x.toArray⟩ : Str) != ⟨y.toArray⟩) = (x != y) := by
 show (!(_ == _)) = !(_ == _)
 rw [ru]
section
variable {h₀ : Heap} {C : Cx} {env : Env} {g : PH} {μ : Mu} {ρ : aj} {σ : aa} {τ : List (Value × D)} {s : Shared} {w : World} {A : Around} {n k : Nat} {a b : Value} {da db d : D} {f : Fn} {p : Pos}
theorem mW {t : Addr} {r : List (List Nat × D)} (T : ew w h₀ t r) {h : Heap} (hk : ∀ a o, h₀.get? a = some o → h.get? a = some o) :
  ∃ es : Array DictEntry, h.MapOf (strKind PW w) t (fun k => findBy Value.isStrOf es k) ∧ (t == sysModules) = false ∧ ∀ x : List Nat, match r.lookup x with
   | some d => ∃ i tk, d = .int i ∧ findBy Value.isStrOf es ⟨x.toArray⟩ = some (.int i tk)
   | none => findBy Value.isStrOf es ⟨x.toArray⟩ = none := by
 obtain ⟨es, n, h1, h2, h3, h4⟩ := T
 refine ⟨es, ⟨_, es, n, hk _ _ h1, ⟨rfl, rfl, rfl⟩, rfl, fun e he => ?_, fun _ => rfl⟩, h3, h4⟩
 obtain ⟨x, t, e1, e2⟩ := h2.all e (Array.mem_toList_iff.mpr he)
 exact ⟨x, by rw [e1]; exact strKind_is PW w x t, e2⟩
theorem uq {es : Array DictEntry} {r : List (List Nat × D)} {x : List Nat} (h : match r.lookup x with
   | some d => ∃ i tk, d = .int i ∧ findBy Value.isStrOf es ⟨x.toArray⟩ = some (.int i tk)
   | none => findBy Value.isStrOf es ⟨x.toArray⟩ = none) : (findBy Value.isStrOf es ⟨x.toArray⟩).isSome = (r.lookup x).isSome := by
 split at h
 ·rename_i e
  obtain ⟨i, tk, h1, h2⟩ := h
  rw [h2, e]; rfl
 ·rename_i e
  rw [h, e]; rfl
theorem gq : ∀ {l : List D} {vs : List Value} {ns : List Int}, RdAll μ g vs l → dH l = some ns → IntsAre vs ns
 | [], [], ns, _, h => by cases h; exact .nil
 | d :: r, v :: vs, ns, hr, h => by
  revert h; refine bE fun x h1 h2 => ?_
  obtain ⟨ys, h3, rfl⟩ := Option.map_eq_some_iff.mp h2
  obtain rfl := aH h1
  obtain ⟨⟨t, rfl⟩, h4⟩ := hr
  exact .cons x t (gq h4 h3)
 | [], _ :: _, _, hr, _ => by cases hr
 | _ :: _, [], _, hr, _ => by cases hr
theorem qA {op : CmpOp} {x y : Int} {t u : Tok} {c : Bool} {Q : Value → Shared → Prop} {E : Value → Shared → Prop} (h : nV op x y = some c) (hQ : Q (.bool c) s) : wpAny (model PW w) A (compareOp op (.int x t) (.int y u)) Q E s := by
 cases op with
 | Eq => exact PyProof.Rows.eq_int (Option.some.inj h ▸ hQ)
 | NotEq => exact PyProof.Rows.ne_int (Option.some.inj h ▸ hQ)
 | Lt => exact PyProof.Rows.lt_int (Option.some.inj h ▸ hQ)
 | LtE => exact PyProof.Rows.le_int (Option.some.inj h ▸ hQ)
 | Gt => exact PyProof.Rows.gt_int (Option.some.inj h ▸ hQ)
 | GtE => exact PyProof.Rows.ge_int (Option.some.inj h ▸ hQ)
 | _ => exact aW h
theorem zs (S : St h₀ C env g μ ρ σ τ s) (R : Room n A) {x y : D} {l r : List D} {c : Bool} {Q : Value → Shared → Prop} {E : Value → Shared → Prop} (hx : Rd μ g a x) (hy : Rd μ g b y) (hl : aF σ x = some l) (hr : aF σ y = some r)
  (h : eqL l r = some c) : (Q (.bool c) s → wpAny (model PW w) A (compareOp .Eq a b) Q E s) ∧ (Q (.bool !c) s → wpAny (model PW w) A (compareOp .NotEq a b) Q E s) := by
 obtain ⟨ax, vx, nx, rfl, h1, h2⟩ := S.seqOf_lst hx hl
 obtain ⟨ay, vy, ny, rfl, h3, h4⟩ := S.seqOf_lst hy hr
 have e1 := h2.length
 have e2 := h4.length
 unfold eqL at h
 split at h
 ·rename_i hne
  refine ox_ h ?_
  have hsz : (vx.size != vy.size) = true := by
   rw [Array.length_toList] at e1 e2
   rw [e1, e2, bne_iff_ne]
   intro he
   clear hl h2 e1; cases l <;> cases r <;> simp_all
  exact ⟨fun hQ => qi R h1 h3 hsz hQ, fun hQ => qh R h1 h3 hsz hQ⟩
 ·refine s5 (g := fun b => s.heap.get? b) (μ := μ) (fun _ _ h => h) R (x := .lst l) (y := .lst r) ?_ ?_ h
  ·exact ⟨ax, vx, nx, rfl, h1, h2.mono S.imm (List.prefix_refl _)⟩
  ·exact ⟨ay, vy, ny, rfl, h3, h4.mono S.imm (List.prefix_refl _)⟩
theorem md {x y : List Nat} {c : Bool} (h : wE x y = some c) : (!(Builtin.Str.occurrences ⟨y.toArray⟩ ⟨x.toArray⟩ 0 (⟨y.toArray⟩ : Str).length 1).isEmpty) = c := by
 revert h; refine bE fun _ h1 h2 => ?_
 obtain ⟨k, h3, rfl⟩ := Option.map_eq_some_iff.mp h2
 have h1 := bp h1
 clear h2; rcases x with _ | ⟨k', _ | ⟨z, r⟩⟩
 ·exact aW h3
 ·clear h1; cases h3
  have := StrLaws.found_one ⟨y.toArray⟩ k
  rw [show ([k] : List Nat).toArray = #[k] from rfl, this, Bool.eq_iff_iff]
  simp
 ·simp at h1
theorem u5 {v : Value} (hv : Rd μ g v d) (h : we σ d = true) : ∃ x, v = x ∧ x ≠ Value.none ∧ ((∃ a, x = .ref a) ∨ (∃ i t, x = .int i t) ∨ ∃ y t, x = .str y t) := by
 cases d <;> first | exact eY h | skip
 ·obtain ⟨t, rfl⟩ := hv; exact ⟨_, rfl, (by intro e; cases e), .inr (.inl ⟨_, _, rfl⟩)⟩
 ·obtain ⟨_, t, rfl⟩ := hv; exact ⟨_, rfl, (by intro e; cases e), .inr (.inr ⟨_, _, rfl⟩)⟩
 ·obtain ⟨x, _, _, rfl, _⟩ := hv; exact ⟨_, rfl, (by intro e; cases e), .inl ⟨_, rfl⟩⟩
 ·obtain ⟨x, _, _, rfl⟩ := hv; exact ⟨_, rfl, (by intro e; cases e), .inl ⟨_, rfl⟩⟩
theorem Ds {n : Bool} {c : Bool} {op : CmpOp} (hop : op = (if n then .IsNot else .Is)) {Q : Value → Shared → Prop} {E : Value → Shared → Prop} (ha : Rd μ g a da) (hb : Rd μ g b db) (h : Gb σ da db = some c) (hQ : Q (.bool (n != c)) s) :
  wpAny (model PW w) A (compareOp op a b) Q E s := by
 subst hop
 revert h; refine oE (fun h1 => ?_) fun h1 => ?_
 ·revert h1; refine bE fun x hx h2 => ?_
  obtain ⟨y, hy, rfl⟩ := Option.map_eq_some_iff.mp h2
  obtain rfl := tB hx
  clear h2; obtain rfl := tB hy
  subst ha hb
  have e : (Value.type x == Value.type y) = (x == y) := by rw [Bool.eq_iff_iff]; simp
  cases n
  ·exact wpAny_is_plain rfl (by rw [e]; simpa using hQ)
  ·exact wpAny_isNot_plain rfl (by rw [e]; simpa using hQ)
 ·revert h1; refine bE fun _ hn h2 => ?_
  have hn := bp hn
  cases db <;> first | exact eY hn | skip
  subst hb
  split at h2
  ·rename_i hna
   cases h2
   cases da <;> first | exact eY hna | skip
   subst ha
   cases n
   ·exact wpAny_is_self rfl (by simpa using hQ)
   ·exact wpAny_isNot_self rfl (by simpa using hQ)
  ·obtain ⟨_, hs, rfl⟩ := Option.map_eq_some_iff.mp h2
   obtain ⟨x, rfl, h3, h4⟩ := u5 ha (bp hs)
   cases n
   ·clear ha h3; rcases h4 with ⟨y, rfl⟩ | ⟨i, t, rfl⟩ | ⟨y, t, rfl⟩ <;> exact wpAny_is_other rfl (by intro e; cases e) (by simpa using hQ)
   ·clear ha h3; rcases h4 with ⟨y, rfl⟩ | ⟨i, t, rfl⟩ | ⟨y, t, rfl⟩ <;> exact wpAny_isNot_other rfl (by intro e; cases e) (by simpa using hQ)
theorem wG (S : St h₀ C env g μ ρ σ τ s) {o : aO} (HT : ∀ t r, o.tab t = some r → ew w h₀ t r) {n : Bool} {c : Bool} {op : CmpOp} (hop : op = (if n then .NotIn else .In)) {Q : Value → Shared → Prop} {E : Value → Shared → Prop} (ha : Rd μ g a da) (hb : Rd μ g b db)
  (h : GP o n da db = some c) (hQ : ∀ tk, Q (.bool c) { s with toks := tk }) : wpAny (model PW w) A (compareOp op a b) Q E s := by
 subst hop
 revert h; refine oE (fun h1 => ?_) fun h1 => ?_
 ·revert h1; refine bE fun _ hn => ?_
  refine bE fun x hx => ?_
  refine bE fun l hl h4 => ?_
  obtain ⟨ns, hns, rfl⟩ := Option.map_eq_some_iff.mp h4
  obtain rfl := aH hx
  obtain rfl := dM hl
  have hn := bp hn
  cases n
  ·obtain ⟨t, rfl⟩ := ha
   obtain ⟨x, vs, k, rfl, h1, h2⟩ := hb
   exact in_tuple_ints ⟨_, S.imm _ _ h1, rfl, _, rfl⟩ (gq h2 hns) (hQ _)
  ·exact eY hn
 revert h1; refine oE (fun h2 => ?_) fun h2 => ?_
 ·revert h2; refine bE fun x hx => ?_
  refine bE fun y hy h4 => ?_
  obtain ⟨z, hz, rfl⟩ := Option.map_eq_some_iff.mp h4
  obtain rfl := aT hx
  obtain rfl := aT hy
  obtain ⟨_, t, rfl⟩ := ha
  obtain ⟨_, u, rfl⟩ := hb
  clear h4; cases n
  ·exact PyProof.Rows.in_str (by rw [md hz]; simpa using hQ _)
  ·exact PyProof.Rows.notIn_str (by rw [md hz]; simpa using hQ _)
 ·revert h2; refine bE fun _ hn => ?_
  refine bE fun x hx => ?_
  refine bE fun t ht h5 => ?_
  obtain ⟨r, hr, rfl⟩ := Option.map_eq_some_iff.mp h5
  obtain rfl := aT hx
  obtain rfl := eJ ht
  have hn := bp hn
  refine q2_ hn ?_
  obtain ⟨_, u, rfl⟩ := ha
  subst hb
  obtain ⟨es, hm, lo, hf⟩ := mW (HT _ _ hr) (fun a o e => S.phi _ _ (S.base _ _ e))
  refine wpAny_notIn_of (strKind_is PW w _ u) lo hm ?_
  rw [uq (hf _)]
  exact hQ _
theorem zt (S : St h₀ C env g μ ρ σ τ s) (R : Room k A) {n : Bool} {c : Bool} {op : CmpOp} (hop : op = (if n then .NotEq else .Eq)) {Q : Value → Shared → Prop} {E : Value → Shared → Prop} (ha : Rd μ g a da) (hb : Rd μ g b db)
  (h : uc σ da db = some c) (hQ : Q (.bool (n != c)) s) : wpAny (model PW w) A (compareOp op a b) Q E s := by
 subst hop
 revert h; refine oE (fun h1 => ?_) fun h1 => ?_
 ·revert h1; refine bE fun x hx h3 => ?_
  obtain ⟨y, hy, rfl⟩ := Option.map_eq_some_iff.mp h3
  obtain rfl := aH hx
  clear h3; obtain rfl := aH hy
  obtain ⟨t, rfl⟩ := ha
  obtain ⟨u, rfl⟩ := hb
  cases n
  ·exact PyProof.Rows.eq_int (by simpa using hQ)
  ·exact PyProof.Rows.ne_int (by simpa [bne] using hQ)
 revert h1; refine oE (fun h2 => ?_) fun h2 => ?_
 ·revert h2; refine bE fun x hx h3 => ?_
  obtain ⟨y, hy, rfl⟩ := Option.map_eq_some_iff.mp h3
  obtain rfl := aT hx
  clear h3; obtain rfl := aT hy
  obtain ⟨_, t, rfl⟩ := ha
  obtain ⟨_, u, rfl⟩ := hb
  cases n
  ·exact PyProof.Rows.eq_str (by rw [ru]; simpa using hQ)
  ·exact PyProof.Rows.ne_str (by rw [xw]; simpa [bne] using hQ)
 have fin : (Q (.bool c) s → wpAny (model PW w) A (compareOp .Eq a b) Q E s) ∧ (Q (.bool !c) s → wpAny (model PW w) A (compareOp .NotEq a b) Q E s) := by
  revert h2; refine oE (fun h3 => ?_) fun h3 => ?_
  ·revert h3; refine bE fun x hx => ?_
   refine bE fun y hy h5 => ?_
   obtain rfl := dM hx
   obtain rfl := dM hy
   exact s5 S.imm R ha hb h5
  ·revert h3; refine bE fun x hx => ?_
   refine bE fun y hy h5 => ?_
   exact zs S R ha hb hx hy h5
 cases n
 ·exact fin.1 (by simpa using hQ)
 ·exact fin.2 (by simpa using hQ)
theorem ti (S : St h₀ C env g μ ρ σ τ s) (R : Room k A) {o : aO} (HT : ∀ t r, o.tab t = some r → ew w h₀ t r) {op : CmpOp} {c : Bool} {Q : Value → Shared → Prop} {E : Value → Shared → Prop} (ha : Rd μ g a da) (hb : Rd μ g b db)
  (h : cmp op o σ da db = some c) (hQ : ∀ tk, Q (.bool c) { s with toks := tk }) : wpAny (model PW w) A (compareOp op a b) Q E s := by
 have is' : ∀ n, op = (if n then .IsNot else .Is) → (Gb σ da db).map (n != ·) = some c → wpAny (model PW w) A (compareOp op a b) Q E s := fun n hop h => by
  obtain ⟨c', h1, rfl⟩ := Option.map_eq_some_iff.mp h
  exact Ds hop ha hb h1 (hQ s.toks)
 have eq' : ∀ n, op = (if n then .NotEq else .Eq) → (uc σ da db).map (n != ·) = some c → wpAny (model PW w) A (compareOp op a b) Q E s := fun n hop h => by
  clear is'; obtain ⟨c', h1, rfl⟩ := Option.map_eq_some_iff.mp h
  exact zt S R hop ha hb h1 (hQ s.toks)
 have ord : (aC da).bind (fun x => (aC db).bind fun y => nV op x y) = some c → wpAny (model PW w) A (compareOp op a b) Q E s := fun h => by
  revert h; refine bE fun x hx => ?_
  refine bE fun y hy h4 => ?_
  clear h is' eq'; obtain rfl := aH hx
  obtain rfl := aH hy
  obtain ⟨t, rfl⟩ := ha
  obtain ⟨u, rfl⟩ := hb
  exact qA h4 (hQ s.toks)
 cases op
 all_goals first
  | exact ord h
  | exact is' false rfl h
  | exact is' true rfl h
  | exact eq' false rfl h
  | exact eq' true rfl h
  | exact wG (n := false) S HT rfl ha hb h hQ
  | exact wG (n := true) S HT rfl ha hb h hQ
end
end
section
set_option maxRecDepth 4000
section
variable {h₀ : Heap} {C : Cx} {env : Env} {g : PH} {μ : Mu} {ρ : aj} {σ : aa} {τ τ' : List (Value × D)} {s : Shared} {w : World} {A : Around} {n : Nat} {a b v : Value} {da db d : D} {f : Fn} {p : Pos}
theorem fR (slice : Expr) (o i : Value) : ∃ ops, subscripted slice false o i = operate ops (getItem o i) := by
 cases slice with
 | Slice l u st p => cases st <;> exact ⟨_, rfl⟩
 | _ => exact ⟨_, rfl⟩
theorem St.seqOf_any (S : St h₀ C env g μ ρ σ τ s) {ds : List D} (hv : Rd μ g v d) (hl : fT σ d = some ds) :
  ∃ a vs n, v = .ref a ∧ (s.heap.get? a = some (ao vs n) ∨ s.heap.get? a = some (jN vs n)) ∧ RdAll μ g vs.toList ds := by
 revert hl; refine oE (fun h => ?_) fun h => ?_
 ·obtain ⟨a, vs, n, h1, h2, h3⟩ := S.seqOf_lst hv h
  exact ⟨a, vs, n, h1, .inl h2, h3⟩
 ·obtain rfl := dM h
  obtain ⟨a, vs, n, h1, h2, h3⟩ := hv
  exact ⟨a, vs, n, h1, .inr (S.imm _ _ h2), h3⟩
theorem pY {i : Int} (h : iP i = true) : -(2 ^ 63) ≤ i ∧ i < 2 ^ 63 := by
 have := of_decide_eq_true h
 lia
theorem jB {i : Int} {len j : Nat} (h : seqIndex? i len = some j) : j < len ∧ (0 ≤ i → j = i.toNat) ∧ (i < 0 → -(len : Int) ≤ i ∧ j = (i + len).toNat) := by
 unfold seqIndex? at h
 by_cases h0 : i < 0
 ·simp only [h0, if_true] at h
  split at h
  ·rename_i hc
   simp only [Bool.and_eq_true, decide_eq_true_eq] at hc
   have := Option.some.inj h
   exact ⟨by lia, fun h' => absurd h0 (by lia), fun _ => ⟨by lia, this.symm⟩⟩
  ·exact aW h
 ·simp only [h0, if_false] at h
  split at h
  ·rename_i hc
   simp only [Bool.and_eq_true, decide_eq_true_eq] at hc
   have := Option.some.inj h
   exact ⟨by lia, fun _ => this.symm, fun h' => absurd h' h0⟩
  ·exact aW h
theorem sJ (S : St h₀ C env g μ ρ σ τ s) {i : Int} {u : Tok} {value slice : Expr} (ht : ∀ p ∈ τ', p ∈ τ) (hv : Rd μ g v d) (h : jf σ d i = some da) :
  wpAny (model PW w) A (subscriptTail value slice v (.int i u)) (PV h₀ C env ρ σ τ' da) be s := by
 revert h; refine bE fun l hl => ?_
 refine bE fun _ hs h8 => ?_
 ··obtain ⟨h1, h2⟩ := pY (bp hs)
   revert h8; refine bE fun j hj hd => ?_
   obtain ⟨x, vs, k, rfl, ho, hr⟩ := S.seqOf_any hv hl
   obtain ⟨y, hy, ry⟩ := hr.get hd
   have e := hr.length
   rw [Array.length_toList] at e
   obtain ⟨ops, hops⟩ := fR slice (.ref x) (.int i u)
   have fin : PV h₀ C env ρ σ τ' da y s := .of ((S.sub ht).put ry)
   rcases ho with ho | ho
   ·refine tail_any ⟨_, ho, rfl⟩ slot_list_getitem.lookup ?_ hops
    obtain ⟨j1, j2, j3⟩ := jB hj
    rcases (by lia : i < 0 ∨ 0 ≤ i) with hneg | hpos
    ·obtain ⟨j4, j5⟩ := j3 hneg
     refine wpAny_getItem_list_neg ⟨_, ho, rfl, _, rfl⟩ hneg (by lia) h1 ?_ fin
     rw [e, ← j5, ← Array.getElem?_toList]; exact hy
    ·refine wpAny_getItem_list ⟨_, ho, rfl, _, rfl⟩ hpos h2 ?_ fin
     rw [← j2 hpos, ← Array.getElem?_toList]; exact hy
   ·refine tail_any ⟨_, ho, rfl⟩ slot_tuple_getitem.lookup ?_ hops
    exact PyProof.Rows.getItem_tuple ⟨_, ho, rfl, _, rfl⟩ h1 h2 (by rw [e]; exact hj) (by rw [← Array.getElem?_toList]; exact hy) fin
theorem pQ (S : St h₀ C env g μ ρ σ τ s) {t : Addr} {r : List (List Nat × D)} {x : List Nat} {u : Tok} {value slice : Expr} (ht : ∀ p ∈ τ', p ∈ τ) (T : ew w h₀ t r) (h : r.lookup x = some d) :
  wpAny (model PW w) A (subscriptTail value slice (.ref t) (.str ⟨x.toArray⟩ u)) (PV h₀ C env ρ σ τ' d) be s := by
 obtain ⟨es, hm, lo, hf⟩ := mW T (fun a o e => S.phi _ _ (S.base _ _ e))
 have := hf x
 rw [h] at this
 clear h; obtain ⟨i, tk, rfl, h2⟩ := this
 obtain ⟨ops, hops⟩ := fR slice (.ref t) (.str ⟨x.toArray⟩ u)
 exact tail_any hm.typeIs slot_dict_getitem.lookup (wpAny_getItem_of (strKind_is PW w _ u) hm h2 (S.int _ _ _ ht)) hops
noncomputable def IsB (v : Value) : Option Int → Prop
 | none => v = .none
 | some i => ∃ t, v = .int i t
theorem IsB.part {v : Value} {o : Option Int} (h : IsB v o) : IsPart v o := by
 cases o with
 | none => cases h; exact .none
 | some i => obtain ⟨t, rfl⟩ := h; exact .int i t
theorem s7 {vs : Array Value} {ds : List D} {lo hi : Option Int} (h : RdAll μ g vs.toList ds) : RdAll μ g (slicePick vs lo hi none).toList (cut ds lo hi) := by
 rw [slicePick_plain]
 have e := h.length
 rw [Array.length_toList] at e
 unfold cut
 rw [← e]
 exact (h.drop _).take _
theorem nH (S : St h₀ C env g μ ρ σ τ s) {x sl : Addr} {vs : Array Value} {k : Nat} {ds : List D} {vl vu : Value} {lo hi : Option Int} (ht : ∀ p ∈ τ', p ∈ τ) (ho : s.heap.get? x = some (ao vs k)) (hr : RdAll μ g vs.toList ds)
  (hz : ds.length ≤ cC) (hs : s.heap.IsSliceOf sl vl vu .none) (pl : IsB vl lo) (pu : IsB vu hi) :
  wpAny (model PW w) A (getItem (.ref x) (.ref sl)) (PV h₀ C env ρ (aJ f p σ (cut ds lo hi)).2 τ' (aJ f p σ (cut ds lo hi)).1) be s := by
 have e := hr.length
 rw [Array.length_toList] at e
 refine wpAny_getItem_list_slice ⟨_, ho, rfl, _, rfl⟩ hs pl.part pu.part .none (by simp) ?_ (by rw [dL, e]; exact hz)
 exact S.newL f p (S.more (h' := s.heap.push _) (fun b o' h => Heap.get?_push_of_some _ h) s.toks) (bg _) (Heap.get?_push_size _ rfl) (s7 hr) ht
theorem mf (S : St h₀ C env g μ ρ σ τ s) {x sl : Addr} {vs : Array Value} {k : Nat} {ds : List D} {u : Tok} (ht : ∀ p ∈ τ', p ∈ τ) (ho : s.heap.get? x = some (ao vs k)) (hr : RdAll μ g vs.toList ds)
  (hz : ds.length ≤ cC) (hs : s.heap.IsSliceOf sl .none .none (.int (-1) u)) :
  wpAny (model PW w) A (getItem (.ref x) (.ref sl)) (PV h₀ C env ρ (aJ f p σ ds.reverse).2 τ' (aJ f p σ ds.reverse).1) be s := by
 have e := hr.length
 rw [Array.length_toList] at e
 refine wpAny_getItem_list_slice ⟨_, ho, rfl, _, rfl⟩ hs .none .none (.int (-1) u) (by simp) ?_ (by rw [dL, e]; exact hz)
 refine S.newL f p (S.more (h' := s.heap.push _) (fun b o' h => Heap.get?_push_of_some _ h) s.toks) (bg _) (Heap.get?_push_size _ rfl) ?_ ht
 rw [krv_pick]
 exact hr.reverse
theorem asciiL_mem {l : List Nat} : ar l = true ↔ ∀ c ∈ l, c < 128 := by simp [ar]
theorem lF {x : List Nat} {lo hi : Option Int} (h : ar x = true) : ar (Txt.slice ⟨x.toArray⟩ lo hi).cps.toList = true := by
 rw [asciiL_mem] at h ⊢
 intro c hc
 unfold Txt.slice at hc
 split at hc
 ·exact h c hc
 ·simp only [List.mem_filterMap] at hc
  obtain ⟨i, _, hi⟩ := hc
  exact h c (by
   have := List.mem_of_getElem? (show x[i]? = some c by simpa using hi)
   exact this)
theorem jH (S : St h₀ C env g μ ρ σ τ s) {x : List Nat} {t : Tok} {sl : Addr} {vl vu : Value} {lo hi : Option Int} (ht : ∀ p ∈ τ', p ∈ τ) (ha : ar x = true)
  (hz : x.length ≤ cC) (hs : s.heap.IsSliceOf sl vl vu .none) (pl : IsB vl lo) (pu : IsB vu hi) :
  wpAny (model PW w) A (getItem (.str ⟨x.toArray⟩ t) (.ref sl)) (PV h₀ C env ρ σ τ' (.str (Txt.slice ⟨x.toArray⟩ lo hi).cps.toList)) be s := by
 obtain ⟨l, hl, el⟩ : ∃ l : Option (Int × Tok), vl = partValue l ∧ l.map (·.1) = lo := by
  cases lo with
  | none => exact ⟨none, pl, rfl⟩
  | some i => obtain ⟨u, e⟩ := pl; exact ⟨some (i, u), e, rfl⟩
 obtain ⟨r, hr, er⟩ : ∃ l : Option (Int × Tok), vu = partValue l ∧ l.map (·.1) = hi := by
  cases hi with
  | none => exact ⟨none, pu, rfl⟩
  | some i => obtain ⟨u, e⟩ := pu; exact ⟨some (i, u), e, rfl⟩
 clear pl pu; subst hl hr el er
 refine wpAny_getItem_str_slice (l := l) (u := r) (st := none) hs rfl ?_
 obtain ⟨T, hT⟩ : ∃ T, T = Txt.slice ⟨x.toArray⟩ (l.map (·.1)) (r.map (·.1)) := ⟨_, rfl⟩
 have hlen : T.length ≤ sizeLine := by
  rw [hT]
  refine Nat.le_trans (PyProof.Txt.length_slice_le _ _ _) ?_
  rw [dL]
  simpa [Str.length, cC] using hz
 rw [← hT]
 have fin : ∀ y : Str, y = T → ∀ tk k, PV h₀ C env ρ σ τ' (.str T.cps.toList) (.str y tk) { s with toks := k } := fun y hy tk k =>
  S.str (by rw [hy]) (by rw [hT]; exact lF ha) tk k ht
 unfold Txt.slice at hT
 unfold sliceMade
 have es : slicePicked ⟨x.toArray⟩ l r none = Builtin.Str.strSliceIndices (l.map (·.1)) (r.map (·.1)) 1 (⟨x.toArray⟩ : Str).length := rfl
 rw [es]
 simp only [Option.map_none, Option.getD_none]
 split
 ·rename_i hc
  rw [if_pos hc] at hT
  exact fin _ hT.symm t s.toks
 ·rename_i hc
  rw [if_neg hc] at hT
  refine q1_ hT ?_
  exact ⟨hlen, fin _ rfl _ _⟩
end
end
section
set_option maxRecDepth 4000
structure SEnv (f : Fn) (env : Env) : Prop where
 kind : env.scope.kind = .function
 glob : env.globals = mainGlobals
 blt : env.builtins = builtinsNs
 loc : ∀ x, f.sc.lookup x = some .local → env.kindOf x = some .local
 cel : ∀ x, f.sc.lookup x = some .cell → env.kindOf x = some .cell
 fre : ∀ x, f.sc.lookup x = some .free → env.kindOf x = some .cell
 gl : ∀ x, f.sc.lookup x = some .globalImplicit → env.kindOf x = some .globalImplicit
 own : f.own = true → env.func.isSome = true
section
variable {h₀ : Heap} {C : Cx} {env : Env} {g : PH} {μ : Mu} {ρ ρ' : aj} {σ : aa} {τ τ' : List (Value × D)} {s : Shared} {w : World} {A : Around} {n : Nat} {a b v : Value} {da db d : D} {f : Fn} {p : Pos}
theorem im {it t : Addr} {items : Array Value} (hne : t ≠ it) (n i : Nat) (s : Shared) (Q : List Value → Shared → Prop) {E : Value → Shared → Prop} (hit : s.heap.IsListIter it t i) (ht : s.heap.IsList t items) (hle : i + n ≤ items.size)
  (hQ : ∀ h', h'.IsListIter it t (i + n) → Heap.SameBut it s.heap h' → Q ((items.toList.drop i).take n) { s with heap := h' }) : wpAny (model PW w) A (draw (.ref it) n) Q E s := by
 induction n generalizing i s Q with
 | zero =>
  show wpAny _ _ (pure []) Q E s
  exact wpAny_pure (by simpa using hQ s.heap hit (Heap.SameBut.refl ..))
 | succ n ih =>
  have hlt : i < items.size := by lia
  show wpAny _ _ (pyNext (.ref it) >>= _) Q E s
  refine wpAny_bind (wpAny_pyNext_list_item hit ht (x := items[i]) (by simp [hlt]) fun h₁ hit₁ hs₁ => ?_)
  have ht₁ : h₁.IsList t items := by
   obtain ⟨o, ho, hc⟩ := ht
   exact ⟨o, hs₁.extBut _ _ hne ho, hc⟩
  refine wpAny_bind (wpAny_holding (ih (i + 1) _ _ hit₁ ht₁ (by lia) fun h₂ hit₂ hs₂ => wpAny_pure ?_))
  have hd : items.toList.drop i = items[i] :: items.toList.drop (i + 1) := by simp [List.drop_eq_getElem_cons, hlt]
  have := hQ h₂ (by rw [show i + (n + 1) = i + 1 + n by lia]; exact hit₂) (hs₁.trans hs₂)
  rw [hd, List.take_succ_cons] at this
  exact this
theorem dC {t : Addr} {items : Array Value} {Q : List Value → Shared → Prop} {E : Value → Shared → Prop} (hh : A.handled = none) (ht : s.heap.IsList t items)
  (hQ : ∀ h', Heap.ExtBut s.heap.objs.size s.heap h' → Q items.toList { s with heap := h' }) : wpAny (model PW w) A (unpackItems (.ref t) items.size none) Q E s := by
 have hlt : t ≠ s.heap.objs.size := by obtain ⟨o, ho, _⟩ := ht; exact Nat.ne_of_lt (Heap.lt_size ho)
 have keep : ∀ {h h' : Heap}, h.IsList t items → Heap.ExtBut s.heap.objs.size h h' → h'.IsList t items := fun ⟨o, ho, hc⟩ hk => ⟨o, hk _ _ hlt ho, hc⟩
 have push : ∀ {o : Obj}, (s.heap.push o).IsList t items := fun {o} => by obtain ⟨o', ho, hc⟩ := ht; exact ⟨o', Heap.get?_push_of_some _ ho, hc⟩
 unfold unpackItems
 refine wpAny_bind ?_
 ·unfold notIterableAtAll
  refine wpAny_bind (wpAny_specialOf ht.typeIs slot_list_iter.lookup ?_)
  refine wpAny_pure ?_
  simp only [Bool.false_eq_true, if_false]
  refine wpAny_bind (wpAny_holding (wpAny_pyIter_list ht ?_))
  refine wpAny_bind (wpAny_holding (im hlt items.size 0 _ _ ⟨_, Heap.get?_push_size _ rfl, rfl, rfl⟩ push (by lia) fun h₁ hit₁ hs₁ => ?_))
  have hall : List.take items.size (List.drop 0 items.toList) = items.toList := by
   rw [List.drop_zero]; exact List.take_of_length_le (by simp)
  rw [hall]
  rw [if_neg (by simp)]
  have ht₁ : h₁.IsList t items := keep push hs₁.extBut
  refine wpAny_bind (wpAny_holding (wpAny_pyNext_list_end hh hit₁ ht₁ (by simp) fun h₂ he₂ => ?_))
  simp only [Option.isSome_none, Bool.false_eq_true, if_false]
  refine wpAny_pure (hQ h₂ fun b o hb e => he₂ b o hb (hs₁.extBut b o hb (Heap.get?_push_of_some _ e)))
theorem ji {h h' : Heap} (hk : Heap.ExtBut h.objs.size h h') : ∀ b o, h.get? b = some o → h'.get? b = some o := fun b o e => hk b o (Nat.ne_of_lt (Heap.lt_size e)) e
theorem cN {l : List (Str × NameKind)} {x : Str} {F : NameKind → Bool} (h : (l.lookup x).any F = true) : ∃ k, l.lookup x = some k ∧ F k = true := by
 cases e : l.lookup x with
 | none => rw [e] at h; cases h
 | some k => rw [e] at h; exact ⟨k, rfl, h⟩
theorem dW (S : St h₀ C env g μ ρ σ τ s) (V : SEnv f env) {x : Str} (hx : f.canSet x = true) (hv : Rd μ g v d) {Q : Unit → Shared → Prop} {E : Value → Shared → Prop}
  (hQ : ∀ s', St h₀ C env g μ (cq ρ x d) σ τ s' → Q () s') : wpAny (model PW w) A (storeName env x v) Q E s := by
 obtain ⟨kd, hl, hx⟩ := cN hx
 cases kd <;> first | exact eY hx | skip
 ·obtain ⟨m, hm, _⟩ := S.loc
  refine wpAny_storeName_local (V.loc _ hl) hm (fun h' hn hs => hQ _ ?_) (by rw [V.kind]; rfl)
  refine S.setLocal (V.loc _ hl) hv (fun m' hm' => ?_) hs.extBut _
  have e : m' = m := by
   obtain ⟨o, es, ep, e1, e2, _, e3⟩ := hm
   obtain ⟨o', es', ep', f1, f2, _, f3⟩ := hm'
   rw [e1] at f1; cases f1
   rw [e2] at f2; cases f2
   exact funext fun x => (f3 x).symm.trans (e3 x)
  refine q2_ e ?_
  exact hn
 ·obtain ⟨c, v₀, hc, hcell, _⟩ := S.celW x (V.own hx) (V.cel _ hl)
  exact wpAny_storeName_cell V.kind (V.cel _ hl) hc hcell fun h' hn hs => hQ _ (S.setCell (V.own hx) (V.cel _ hl) hv hc hn hs.extBut _)
theorem oW {e : Expr} {x : Str} (h : kG e = some x) : ∃ p, e = .Name x p := by
 have hT := kr e
 unfold kG at h
 generalize qO e = t at h hT
 cases hT <;> first | exact aW h | (cases h; exact ⟨_, rfl⟩)
theorem n4 {es : List Expr} {ds : List D} {ρ ρ' : aj} : ej f es ds ρ = some ρ' → es.length = ds.length := by
 induction es generalizing ds ρ with
 | nil =>
  cases ds with
  | nil => exact fun _ => rfl
  | cons _ _ => exact fun h => aW h
 | cons e es ih =>
  cases ds with
  | nil => exact fun h => aW h
  | cons d ds => exact bE fun ρ₁ _ h2 => congrArg (· + 1) (ih h2)
theorem io {es : List Expr} {ds : List D} {ρ ρ' : aj} : ej f es ds ρ = some ρ' → assignEach es env = es.map fun e => (false, assign e env) := by
 induction es generalizing ds ρ with
 | nil =>
  cases ds with
  | nil => exact fun _ => rfl
  | cons _ _ => exact fun h => aW h
 | cons e es ih =>
  cases ds with
  | nil => exact fun h => aW h
  | cons d ds =>
   refine bE fun ρ₁ h1 h2 => ?_
   revert h1; refine bE fun x hx _ => ?_
   obtain ⟨p, rfl⟩ := oW hx
   rw [List.map_cons, ← ih h2]
   rfl
theorem kb (V : SEnv f env) (es : List Expr) (ds : List D) {vs : List Value} {ρ ρ' : aj} {s : Shared} (h : ej f es ds ρ = some ρ') (hv : RdAll μ g vs ds) (S : St h₀ C env g μ ρ σ τ s) :
  wpAny (model PW w) A (assignInOrder (es.map ((fun x => x.2) ∘ fun e => (false, assign e env))) vs) (fun _ s' => St h₀ C env g μ ρ' σ τ s') be s := by
 induction es generalizing ds vs ρ s with
 | nil =>
  cases ds with
  | cons _ _ => exact aW h
  | nil =>
   cases vs with
   | cons _ _ => exact False.elim hv
   | nil => cases h; exact wpAny_pure S
 | cons e es ih =>
  cases ds with
  | nil => exact aW h
  | cons d ds =>
   cases vs with
   | nil => exact False.elim hv
   | cons v vs =>
    revert h; refine bE fun ρ₁ h1 h2 => ?_
    revert h1; refine bE fun x hx h3 => ?_
    obtain ⟨_, hc, rfl⟩ := Option.map_eq_some_iff.mp h3
    obtain ⟨p, rfl⟩ := oW hx
    rw [List.map_cons]
    exact wpAny_assignInOrder_more (wpAny_assign_Name (dW S V (bp hc) hv.1 fun s' S' => ih ds h2 hv.2 S'))
theorem gF (R : Room n A) (V : SEnv f env) (e : Expr) (d : D) {v : Value} {ρ ρ' : aj} {s : Shared} (h : ct f e d ρ = some ρ') (hv : Rd μ g v d) (S : St h₀ C env g μ ρ σ τ s) : wpAny (model PW w) A (assign e env v) (fun _ s' => St h₀ C env g μ ρ' σ τ s') be s := by
 have hT := kr e
 unfold ct at h
 generalize qO e = t at h hT
 cases hT <;> first | exact aW h | skip
 ·obtain ⟨_, hc, rfl⟩ := Option.map_eq_some_iff.mp h
  exact wpAny_assign_Name (dW S V (bp hc) hv fun s' S' => S')
 ·revert h; refine bE fun l hl hb => ?_
  have e1 := io (env := env) hb
  have e2 := n4 hb
  revert hl; refine oE (fun h1 => ?_) fun h1 => ?_
  ·obtain rfl := dM h1
   obtain ⟨t, vs, m, rfl, ho, hr⟩ := hv
   have e3 := hr.length
   rw [Array.length_toList] at e3
   refine wpAny_assign_Tuple R.hd ⟨_, S.imm _ _ ho, rfl, _, rfl⟩ (by rw [e1, List.length_map, e2, e3]) (by rw [e1]; simp [List.findIdx?_map]) fun h' hk => ?_
   rw [e1, List.map_map]
   exact kb V _ l hb hr (S.more (ji hk) s.toks)
  ·obtain rfl := ek h1
   obtain ⟨t, vs, m, rfl, ho, hr⟩ := hv
   have e3 := hr.length
   rw [Array.length_toList] at e3
   rw [arm_assign_Tuple]
   refine wpAny_bind (wpAny_standAt ?_)
   unfold unpack
   rw [e1, List.length_map, e2, ← e3, show (List.map (fun e => (false, assign e env)) _).findIdx? (·.1) = none by simp [List.findIdx?_map]]
   refine wpAny_bind (wpAny_holding (dC R.hd ⟨_, S.imm _ _ ho, rfl, _, rfl⟩ fun h' hk => ?_))
   rw [List.map_map]
   exact kb V _ l hb hr (S.more (ji hk) s.toks)
end
end
section
set_option maxRecDepth 4000
section
variable {h₀ : Heap} {C : Cx} {env : Env} {g : PH} {μ : Mu} {ρ ρ' : aj} {σ : aa} {τ τ' : List (Value × D)} {s : Shared} {w : World} {A : Around} {n : Nat} {a b v : Value} {da db d : D} {f : Fn} {p : Pos}
theorem lA : ∀ {l : List D} {vs : List Value} {ys : List Str}, RdAll μ g vs l → kx l = some ys → StrsAre vs ys ∧ ∀ y ∈ ys, ar y.cps.toList = true
 | [], [], ns, _, h => by cases h; exact ⟨.nil, fun y hy => (nomatch hy)⟩
 | d :: r, v :: vs, ns, hr, h => by
  revert h; refine bE fun x h1 h2 => ?_
  obtain ⟨ys, h3, rfl⟩ := Option.map_eq_some_iff.mp h2
  clear h2; obtain ⟨y, h4, rfl⟩ := Option.map_eq_some_iff.mp h1
  clear h1; obtain rfl := aT h4
  obtain ⟨h5, h6⟩ := lA hr.2 h3
  obtain ⟨⟨ha, t, rfl⟩, _⟩ := hr
  refine ⟨.cons _ t h5, fun z hz => ?_⟩
  rcases List.mem_cons.mp hz with rfl | hz
  ·exact ha
  ·exact h6 z hz
 | [], _ :: _, _, hr, _ => by cases hr
 | _ :: _, [], _, hr, _ => by cases hr
theorem BD {vs : List Value} (h : RdAll μ g vs []) : vs = [] := by
 cases vs with
 | nil => rfl
 | cons v vs => exact False.elim h
theorem wj {vs : List Value} {x : D} (h : RdAll μ g vs [x]) : ∃ v, vs = [v] ∧ Rd μ g v x := by
 cases vs with
 | nil => exact False.elim h
 | cons v vs => exact ⟨v, congrArg (v :: ·) (BD h.2), h.1⟩
theorem EX {vs : List Value} {x y : D} (h : RdAll μ g vs [x, y]) : ∃ v u, vs = [v, u] ∧ Rd μ g v x ∧ Rd μ g u y := by
 cases vs with
 | nil => exact False.elim h
 | cons v vs =>
  obtain ⟨u, e, hu⟩ := wj h.2
  exact ⟨v, u, congrArg (v :: ·) e, h.1, hu⟩
theorem qG {i : Int} (h0 : 0 ≤ i) : ar (ah i) = true := by
 obtain ⟨m, rfl⟩ := Int.eq_ofNat_of_zero_le h0
 unfold ah
 rw [KIN.signs_num]
 simp only [ar, List.all_eq_true, decide_eq_true_eq]
 intro c hc
 obtain ⟨ch, hch, e⟩ := List.mem_map.mp hc
 have r := PyProof.Rows.digit_range (Nat.isDigit_of_mem_toDigits (by decide) (by decide) hch)
 rw [← e]
 lia
theorem qg {i : Int} (h0 : 0 ≤ i) (h1 : i < 10000000000) : i.natAbs.log2 < 1920 := by
 by_cases h : i.natAbs = 0
 ·rw [h]; decide
 ·refine (Nat.log2_lt h).mpr ?_
  have h2 : i.natAbs < 2 ^ 64 := by lia
  exact Nat.lt_of_lt_of_le h2 (Nat.pow_le_pow_right (i := 64) (j := 1920) (by decide) (by decide))
noncomputable def BF.val (b : BF) : Value := match b with
 | .len => .builtin "len" | .tuple => .type "tuple" | .max => .builtin "max" | .repr => .builtin "repr" | .str => .type "str" | .int => .type "int" | .sum => .builtin "sum" | .divmod => .builtin "divmod" | .type => .type "type"
theorem BF.val_is (b : BF) : (∃ id, b.val = .builtin id) ∨ ∃ T, b.val = .type T := by cases b <;> first | exact .inl ⟨_, rfl⟩ | exact .inr ⟨_, rfl⟩
theorem zJ (S : St h₀ C env g μ ρ σ τ s) (R : Room n A) (ht : ∀ p ∈ τ', p ∈ τ) {F : BF} {x y : Int} {t u : Tok} (h : D4 F x y = some d) : wpAny (model PW w) A (call F.val [.int x t, .int y u]) (PV h₀ C env ρ σ τ' d) be s := by
 cases F <;> first | exact aW h | skip
 ·refine ox_ h ?_
  refine max_two_ints R.hd fun h' tk hk => ?_
  have S' := S.more hk tk
  split
  ·exact .of ((S'.sub ht).put ⟨_, rfl⟩)
  ·exact .of ((S'.sub ht).put ⟨_, rfl⟩)
 ·obtain ⟨_, hb, rfl⟩ := Option.map_eq_some_iff.mp h
  obtain ⟨h1, h2⟩ := Bool.and_eq_true_iff.mp (bp hb)
  refine divmod_int (by simpa using h1) ?_ (.inl (PyProof.noPylong_small (of_decide_eq_true h2)))
  have S' := S.toks (s.toks + 1 + 1)
  obtain ⟨g', S''⟩ := S'.tuple (vs := [_, _]) (ds := [.int _, .int _]) ⟨⟨s.toks, rfl⟩, ⟨s.toks + 1, rfl⟩, trivial⟩ ht
  exact ⟨g', _, S''⟩
theorem zK (S : St h₀ C env g μ ρ σ τ s) (R : Room n A) (ht : ∀ p ∈ τ', p ∈ τ) {F : BF} (hv : Rd μ g v da) (h : wQ F σ da = some d) : wpAny (model PW w) A (call F.val [v]) (PV h₀ C env ρ σ τ' d) be s := by
 cases F <;> first | exact aW h | skip
 ·-- len
  revert h; refine oE (fun h1 => ?_) fun h1 => ?_
  ·revert h1; refine bE fun x hx h2 => ?_
   obtain ⟨_, hb, rfl⟩ := Option.map_eq_some_iff.mp h2
   obtain rfl := aT hx
   have hb := of_decide_eq_true (bp hb)
   obtain ⟨_, t, rfl⟩ := hv
   refine PyProof.Rows.len_str (by simp only [Str.length, cC] at *; simp; lia) ?_
   show PV h₀ C env ρ σ τ' _ (Value.int ((List.toArray _).size : Nat) _) _
   rw [List.size_toArray]
   exact S.int _ _ _ ht
  ·revert h1; refine bE fun l hl h2 => ?_
   obtain ⟨_, hb, rfl⟩ := Option.map_eq_some_iff.mp h2
   have hb := of_decide_eq_true (bp hb)
   obtain ⟨ax, ws, k, rfl, ho, hra⟩ := S.seqOf_any hv hl
   have e := hra.length
   rw [Array.length_toList] at e
   rw [← e]
   simp only [cC] at hb
   rcases ho with ho | ho
   ·exact PyProof.Rows.len_list ⟨_, ho, rfl, _, rfl⟩ (by lia) (S.int _ _ _ ht)
   ·exact PyProof.Rows.len_tuple ⟨_, ho, rfl, _, rfl⟩ (by lia) (S.int _ _ _ ht)
 ·-- tuple
  revert h; refine bE fun l hl h2 => ?_
  obtain ⟨_, hb, rfl⟩ := Option.map_eq_some_iff.mp h2
  have hb := of_decide_eq_true (bp hb)
  obtain ⟨ax, ws, k, rfl, ho, hra⟩ := S.seqOf_lst hv hl
  have e := hra.length
  rw [Array.length_toList] at e
  refine call_tuple_list ⟨_, ho, rfl, _, rfl⟩ (fun h' hk => ?_) (by rw [dL, e]; lia)
  obtain ⟨g', S''⟩ := (S.more hk s.toks).tuple (vs := ws.toList) hra ht
  exact ⟨g', _, by simpa using S''⟩
 ·-- repr
  cases da <;> first | exact aW h | skip
  refine ox_ h ?_
  subst hv
  refine P.repr_of_bool ?_
  rename_i bb
  clear h; cases bb <;> exact S.str rfl (by decide +kernel) _ _ ht
 ·-- str
  revert h; refine bE fun i hi h2 => ?_
  obtain ⟨_, hb, rfl⟩ := Option.map_eq_some_iff.mp h2
  obtain rfl := aH hi
  have hb := of_decide_eq_true (bp hb)
  obtain ⟨t, rfl⟩ := hv
  exact P.str_of_int (qg hb.1 hb.2) (S.str rfl (qG hb.1) _ _ ht)
 ·-- int
  revert h; refine bE fun x hx h2 => ?_
  obtain ⟨i, h3, rfl⟩ := Option.map_eq_some_iff.mp h2
  revert h3; refine bE fun _ hb h4 => ?_
  obtain rfl := aT hx
  obtain ⟨_, t, rfl⟩ := hv
  exact KIN.call_text h4 (by simpa [Str.length] using of_decide_eq_true (bp hb)) (S.int _ _ _ ht)
 ·-- sum
  revert h; refine bE fun l hl h2 => ?_
  obtain ⟨ns, h3, rfl⟩ := Option.map_eq_some_iff.mp h2
  obtain ⟨ax, ws, k, rfl, ho, hra⟩ := S.seqOf_lst hv hl
  obtain ⟨m, hm, F, N⟩ := S.frm
  refine LSm.sum_ints F N R.hd (vs := ws.toList) (by rw [Array.toArray_toList]; exact ⟨_, ho, rfl, _, rfl⟩) (gq hra h3) fun h' tk t' F' N' => ?_
  exact .of (((S.ofFr hm F' (more := []) N' tk).sub ht).put ⟨_, rfl⟩)
 ·-- type
  obtain ⟨T, h1, rfl⟩ := Option.map_eq_some_iff.mp h
  have fin : ∀ T, PV h₀ C env ρ σ τ' (.typ T) (.type T) s := fun T => .of ((S.sub ht).put rfl)
  revert h1; refine oE (fun h2 => ?_) fun h2 => ?_
  ·clear h; obtain ⟨x, hx, rfl⟩ := Option.map_eq_some_iff.mp h2
   clear h2; obtain rfl := aT hx
   obtain ⟨_, t, rfl⟩ := hv
   exact call_type_of (typeIs_str _ _ _) (by decide) (fin _)
  ·revert h2; refine oE (fun h3 => ?_) fun h3 => ?_
   ·clear h; obtain ⟨x, hx, rfl⟩ := Option.map_eq_some_iff.mp h3
    clear h3; obtain rfl := ek hx
    obtain ⟨ax, ws, k, rfl, ho, _⟩ := hv
    exact call_type_of ⟨_, S.imm _ _ ho, rfl⟩ (by decide) (fin _)
   ·revert h3; refine bE fun i hi h4 => ?_
    clear h; obtain ⟨l, hl, rfl⟩ := Option.map_eq_some_iff.mp h4
    obtain rfl := cB hi
    obtain ⟨ax, ws, k, rfl, ho, _⟩ := S.seqOf_lst hv (ds := l) (jb hl)
    exact call_type_of ⟨_, ho, rfl⟩ (by decide) (fin _)
theorem n0 (S : St h₀ C env g μ ρ σ τ s) (R : Room n A) (ht : ∀ p ∈ τ', p ∈ τ) {x : Str} {ds : List D} {vs : List Value} {F : BF} (hv : RdAll μ g vs ds) (h : ak x σ ds = some d) (hf : bfs.lookup x = some F) :
  wpAny (model PW w) A (call F.val vs) (PV h₀ C env ρ σ τ' d) be s := by
 revert h; refine bE fun F' h1 h2 => ?_
 rw [hf] at h1
 cases h1
 rcases ds with _ | ⟨d1, _ | ⟨d2, _ | ⟨d3, r⟩⟩⟩
 ·exact aW h2
 ·obtain ⟨v, rfl, hr⟩ := wj hv
  exact zK S R ht hr h2
 ·obtain ⟨v, u, rfl, hr, hu⟩ := EX hv
  revert h2; refine bE fun i hi => ?_
  refine bE fun j hj h4 => ?_
  clear hv; obtain rfl := aH hi
  obtain rfl := aH hj
  obtain ⟨t, rfl⟩ := hr
  obtain ⟨t', rfl⟩ := hu
  exact zJ S R ht h4
 ·exact aW h2
end
end
section
set_option maxRecDepth 4000
noncomputable def MId.id : MId → String
 | .lower => "str.lower" | .swapcase => "str.swapcase" | .join => "str.join" | .split => "str.split" | .index => "list.index" | .append => "list.append" | .pop => "list.pop" | .get => "dict.get"
theorem kt : ∀ c, c < 128 → (if Unicode.isUpper c then Unicode.lowerOf c else if Unicode.isLower c then Unicode.upperOf c else [c]) = [cY c] := by decide +kernel
theorem mX {x : Str} (hA : ∀ c ∈ x.cps.toList, c < 128) : Txt.swapcase x = ⟨x.cps.map cY⟩ := by
 unfold Txt.swapcase
 rw [placed_single x _ cY fun i c hc => by
  have hc' : x.cps[i]? = some c := by simpa using hc
  have hlt := hA c (List.mem_of_getElem? hc)
  rw [← kt c hlt]
  unfold Unicode.lowerAt
  rw [hc']
  have hne : (c == 0x3A3) = false := by rw [beq_eq_false_iff_ne]; lia
  simp only [hne, Bool.false_and, Bool.false_eq_true, if_false]]
theorem vd : ∀ c, c < 128 → bH c < 128 := by decide +kernel
theorem rp : ∀ c, c < 128 → cY c < 128 := by decide +kernel
theorem pn {M : Model} {A : Around} {s : Shared} {t : Tok} {x : Str} {pl : Sem Bool} {nm : Str} {id : String} {Q : Value × List Value → Shared → Prop} {E : Value → Shared → Prop} (slot : Slot "str" nm id) (ty : typeOf (.builtin id) = pure (.type "method_descriptor")) (hQ : Q (.builtin id, [.str x t]) s) :
  wpAny M A (getMethod (.str x t) nm pl) Q E s := by
 with_reducible exact GM.of (.str x t) (typeIs_str s x t) slot ty GM.noRef hQ
theorem po {M : Model} {A : Around} {s : Shared} {x : Addr} {T : String} {ob : Obj} {pl : Sem Bool} {nm : Str} {id : String} {Q : Value × List Value → Shared → Prop} {E : Value → Shared → Prop} (pa : PlainAttrs T) (slot : Slot T nm id) (ty : typeOf (.builtin id) = pure (.type "method_descriptor"))
  (ho : s.heap.get? x = some ob) (hc : ob.cls = .type T) (hd : ob.dict = none) (hQ : Q (.builtin id, [.ref x]) s) : wpAny M A (getMethod (.ref x) nm pl) Q E s := by
 have hT : s.TypeIs (.ref x) T := ⟨_, ho, hc⟩
 have hd' : ∀ a, Value.ref x = .ref a → ∃ o, s.heap.get? a = some o ∧ o.dict = none := fun a e => by cases e; exact ⟨_, ho, hd⟩
 with_reducible exact getMethod_builtin hT pa slot ty hd' hQ
section
variable {h₀ : Heap} {C : Cx} {env : Env} {g : PH} {μ : Mu} {ρ ρ' : aj} {σ σ' : aa} {τ τ' : List (Value × D)} {s : Shared} {w : World} {A : Around} {n : Nat} {a b v : Value} {da db d r : D} {f : Fn} {p : Pos} {o : aO}
theorem bh {α : Type} {l : List (Str × α)} {m : Str} {v : α} (h : l.lookup m = some v) : (m, v) ∈ l := by
 induction l with
 | nil => exact aW h
 | cons p r ih =>
  rw [List.lookup_cons] at h
  by_cases e : m = p.1
  ·clear ih; subst e
   simp only [beq_self_eq_true, Option.some.injEq] at h
   refine q1_ h ?_
   exact List.mem_cons_self ..
  ·have : (m == p.1) = false := by simpa using e
   simp only [this] at h
   exact List.mem_cons_of_mem _ (ih h)
theorem St.lstAt (S : St h₀ C env g μ ρ σ τ s) {i : Nat} {l : List D} (hv : Rd μ g v (.ptr i)) (h : lstAt σ i = some l) : ∃ a vs n, v = .ref a ∧ s.heap.get? a = some (ao vs n) ∧ RdAll μ g vs.toList l :=
 S.seqOf_lst hv (jb h)
theorem vq (HT : ∀ t r, o.tab t = some r → ew w h₀ t r) (S : St h₀ C env g μ ρ σ τ s) {m : Str} {id : MId} {pl : Sem Bool} {Q : Value × List Value → Shared → Prop} {E : Value → Shared → Prop} (hv : Rd μ g v d) (h : ja o σ d m = some id)
  (hQ : Q (.builtin id.id, [v]) s) : wpAny (model PW w) A (getMethod v m pl) Q E s := by
 revert h; refine oE (fun h1 => ?_) fun h => ?_
 ·revert h1; refine bE fun x hx h2 => ?_
  obtain rfl := aT hx
  obtain ⟨_, t, rfl⟩ := hv
  have h3 := bh h2
  simp only [mStr, List.mem_cons, Prod.mk.injEq, List.not_mem_nil, or_false] at h3
  clear h2; rcases h3 with ⟨rfl, rfl⟩ | ⟨rfl, rfl⟩ | ⟨rfl, rfl⟩ | ⟨rfl, rfl⟩
  ·with_reducible refine pn F.slot_str_lower F.type_str_lower ?_
   exact hQ
  ·with_reducible refine pn F.slot_str_swapcase F.type_str_swapcase ?_
   exact hQ
  ·with_reducible refine pn F.slot_str_join F.type_str_join ?_
   exact hQ
  ·with_reducible refine pn F.slot_str_split F.type_str_split ?_
   exact hQ
 revert h; refine oE (fun h1 => ?_) fun h => ?_
 ·revert h1; refine bE fun x hx h2 => ?_
  obtain ⟨_, hm, rfl⟩ := Option.map_eq_some_iff.mp h2
  obtain rfl := ek hx
  clear h2; obtain rfl : m = Mine.S "index" := by simpa using bp hm
  obtain ⟨ax, ws, k, rfl, ho, _⟩ := hv
  exact po F.plainAttrs_list F.slot_list_index F.type_list_index (S.imm _ _ ho) rfl rfl hQ
 revert h; refine oE (fun h1 => ?_) fun h1 => ?_
 ·revert h1; refine bE fun i hi => ?_
  refine bE fun l hl h3 => ?_
  obtain rfl := cB hi
  obtain ⟨ax, ws, k, rfl, ho, _⟩ := S.lstAt hv hl
  have h3 := bh h3
  simp only [mLst, List.mem_cons, Prod.mk.injEq, List.not_mem_nil, or_false] at h3
  rcases h3 with ⟨rfl, rfl⟩ | ⟨rfl, rfl⟩
  ·exact po F.plainAttrs_list F.slot_list_append F.type_list_append ho rfl rfl hQ
  ·exact po F.plainAttrs_list F.slot_list_pop F.type_list_pop ho rfl rfl hQ
 ·revert h1; refine bE fun t ht => ?_
  refine bE fun r hr h3 => ?_
  obtain ⟨_, hm, rfl⟩ := Option.map_eq_some_iff.mp h3
  obtain rfl := eJ ht
  clear h3; obtain rfl : m = Mine.S "get" := by simpa using bp hm
  obtain ⟨es, k, ho, _⟩ := HT _ _ hr
  subst hv
  exact po F.plainAttrs_dict F.slot_dict_get F.type_dict_get (S.phi _ _ (S.base _ _ ho)) rfl rfl hQ
theorem lQ {ds : List D} {x : D} (h : nk ds = some x) : ds = [x] := by
 rcases ds with _ | ⟨a, _ | ⟨b, r⟩⟩ <;> first | exact aW h | (cases h; rfl)
theorem Bd {ds : List D} {x y : D} (h : Be ds = some (x, y)) : ds = [x, y] := by
 rcases ds with _ | ⟨a, _ | ⟨b, _ | ⟨c, r⟩⟩⟩ <;> first | exact aW h | (cases h; rfl)
theorem yG {ds : List D} {u : Unit} (h : gd ds.isEmpty = some u) : ds = [] := by simpa using bp h
theorem tA {x : List Nat} (ha : ar x = true) : ∀ c ∈ (⟨x.toArray⟩ : Str).cps.toList, c < 128 := fun c hc => asciiL_mem.mp ha c (by simpa using hc)
theorem ke {x : List Nat} {f : Nat → Nat} (hf : ∀ c, c < 128 → f c < 128) (ha : ar x = true) : ar (x.map f) = true := by
 rw [asciiL_mem]
 intro c hc
 obtain ⟨c', h1, rfl⟩ := List.mem_map.mp hc
 exact hf _ (asciiL_mem.mp ha _ h1)
theorem l7 : ∀ {ns : List Int}, ns.all small = true → PyData.canLayAll0 (ns.map .int) = true ∧ PyData.depthAll (ns.map .int) = 0 ∧ PyData.weightAll (ns.map .int) ≤ 70 * ns.length
 | [], _ => by simp [PyData.canLayAll0, PyData.depthAll, PyData.weightAll]
 | i :: r, h => by
  simp only [List.all_cons, Bool.and_eq_true] at h
  obtain ⟨h1, h2, h3⟩ := l7 h.2
  have hw : PyData.weight (.int i) ≤ 69 := by
   unfold PyData.weight
   split
   ·lia
   ·have := of_decide_eq_true h.1
    by_cases h0 : i.natAbs = 0
    ·rw [h0]; decide
    ·have : i.natAbs.log2 < 64 := (Nat.log2_lt h0).mpr (by omega)
     lia
  refine ⟨by simp [PyData.canLayAll0, PyData.canLay0, h1], by simp [PyData.depthAll, PyData.depth, h2], ?_⟩
  simp only [List.map_cons, PyData.weightAll, List.length_cons]
  lia
theorem nz {sep : Str} {ys : List Str} (hs : ar sep.cps.toList = true) (hy : ∀ y ∈ ys, ar y.cps.toList = true) : ar (Str.join sep ys).cps.toList = true := by
 rw [asciiL_mem]
 intro c hc
 rcases (mem_join sep c ys).mp hc with ⟨t, ht, hc⟩ | ⟨_, hc⟩
 ·exact asciiL_mem.mp (hy t ht) c hc
 ·exact asciiL_mem.mp hs c hc
theorem xK {l : List (Str × Tok)} {ys : List Str} (h : l.map (·.1) = ys) (ha : ∀ y ∈ ys, ar y.cps.toList = true) : RdAll μ g (strValues l) (ys.map fun x => D.str x.cps.toList) := by
 subst h
 induction l with
 | nil => trivial
 | cons p r ih =>
  simp only [List.map_cons, List.mem_cons, forall_eq_or_imp] at ha
  show RdAll μ g (.str p.1 p.2 :: strValues r) _
  exact ⟨⟨ha.1, p.2, rfl⟩, ih ha.2⟩
theorem lC {x y : Str} (ha : ar x.cps.toList = true) : ∀ z ∈ Txt.split x y, ar z.cps.toList = true := by
 intro z hz
 rw [asciiL_mem]
 intro c hc
 have := (mem_join y c (Txt.split x y)).mpr (.inl ⟨z, hz, hc⟩)
 rw [StrLaws.join_split] at this
 exact asciiL_mem.mp ha c this
inductive wX (μ : Mu) (g : PH) (h : Heap) (v : Value) (i : Nat) (l : List D) : Prop
 | mk (a : Addr) (vs : Array Value) (n : Nat) (e : v = .ref a) (m : μ[i]? = some (a, a)) (o : h.get? a = some (ao vs n)) (r : RdAll μ g vs.toList l) (z : vs.size = l.length) : wX μ g h v i l
theorem St.ptrAt (S : St h₀ C env g μ ρ σ τ s) {i : Nat} {l : List D} (hv : Rd μ g v (.ptr i)) (hi : σ[i]? = some (.lst l)) : wX μ g s.heap v i l := by
 obtain ⟨ax, m, hm, rfl⟩ := hv
 have k1 := S.stoAt hi hm
 obtain ⟨b1, b2, b3, b4, ws, k, b5, b6⟩ := k1
 subst b1
 exact ⟨_, ws, k, rfl, hm, b5, b6, by rw [← b6.length, Array.length_toList]⟩
theorem xM (S : St h₀ C env g μ ρ σ τ s) (ht : ∀ p ∈ τ', p ∈ τ) {i : Nat} {l : List D} {x : D} (hv : Rd μ g v (.ptr i)) (hi : σ[i]? = some (.lst l)) (hsz : l.length ≤ cC) (hlast : l.getLast? = some x) :
  wpAny (model PW w) A (call (.builtin "list.pop") [v]) (PV h₀ C env ρ (σ.set i (.lst l.dropLast)) τ' x) be s := by
 obtain ⟨ax, ws, k, rfl, hm, b5, b6, e⟩ := S.ptrAt hv hi
 rw [List.getLast?_eq_getElem?] at hlast
 obtain ⟨y, hy, ry⟩ := b6.get hlast
 have hne : 0 < ws.size := by
  have := (List.getElem?_eq_some_iff.mp hlast).1
  lia
 refine call_meets F.slot_list_pop ⟨_, b5, rfl⟩ F.entry_list_pop (F.args_list_pop_1 _) (MeetsSeq.list_pop_last _ ws k y (by rw [e, ← Array.getElem?_toList]; exact hy) (by rw [dL, e]; exact hsz)) ⟨b5, ?_⟩
 have hu : (s.heap.update ax (Obj.mapSeq fun xs => xs.eraseIdxIfInBounds (ws.size - 1))).get? ax = some (ao (ws.eraseIdxIfInBounds (ws.size - 1)) (k + 1)) := by
  rw [Heap.get?_update_self _ b5]
  ·simp only [Obj.mapSeq]
   rw [if_neg]
   simp only [Array.eraseIdxIfInBounds]
   rw [dif_pos (by lia)]
   simp
   lia
  ·simp [Obj.mapSeq, Obj.isFreed]
 have hpop : (ws.eraseIdxIfInBounds (ws.size - 1)).toList = ws.toList.take (ws.size - 1) := by
  simp only [Array.eraseIdxIfInBounds]
  rw [dif_pos (by lia), Array.toList_eraseIdx]
  rw [show ws.size - 1 = ws.toList.length - 1 by simp, List.eraseIdx_length_sub_one, List.dropLast_eq_take]
 have htk : RdAll μ g (ws.eraseIdxIfInBounds (ws.size - 1)).toList l.dropLast := by
  rw [hpop, e, List.dropLast_eq_take]
  exact b6.take _
 have S' := S.setLst hi hm (h' := s.heap.update ax _) (Heap.SameBut.update ..).extBut hu htk s.toks
 exact .of ((S'.sub ht).put ry)
theorem r9 (HT : ∀ t r, o.tab t = some r → ew w h₀ t r) (S : St h₀ C env g μ ρ σ τ s) (R : Room n A) (ht : ∀ p ∈ τ', p ∈ τ) {id : MId} {ds : List D} {vs : List Value} (hv : Rd μ g v d) (hvs : RdAll μ g vs ds) (h : aq o id σ d ds = some (r, σ')) :
  wpAny (model PW w) A (call (.builtin id.id) (v :: vs)) (PV h₀ C env ρ σ' τ' r) be s := by
 cases id
 ·revert h; refine bE fun _ h0 => ?_
  refine bE fun x hx => ?_
  refine mE fun _ hl h4 => ?_
  refine p2 h4 ?_
  obtain rfl := yG h0
  obtain rfl := BD hvs
  obtain rfl := aT hx
  obtain ⟨ha, t, rfl⟩ := hv
  have hl := of_decide_eq_true (bp hl)
  have e := lower_ascii (tA ha)
  refine KXw.lower e ?_ fun t' k => S.str (by simp [bH, List.map_toArray]) (ke vd ha) t' k ht
  rw [e]
  simp only [Str.length, Array.size_map, List.size_toArray]
  exact decide_eq_false (by simp only [sizeLine]; lia)
 ·revert h; refine bE fun _ h0 => ?_
  refine bE fun x hx => ?_
  refine mE fun _ hl h4 => ?_
  refine p2 h4 ?_
  obtain rfl := yG h0
  obtain rfl := BD hvs
  obtain rfl := aT hx
  obtain ⟨ha, t, rfl⟩ := hv
  have hl := of_decide_eq_true (bp hl)
  have e := mX (tA ha)
  refine KXw.swapcase e ?_ fun t' k => S.str (by simp) (ke rp ha) t' k ht
  rw [e]
  simp only [Str.length, Array.size_map, List.size_toArray]
  exact decide_eq_false (by simp only [sizeLine]; lia)
 ·revert h; refine bE fun y hy => ?_
  refine bE fun x hx => ?_
  refine bE fun l hl => ?_
  refine mE fun q hq h5 => ?_
  refine p2 h5 ?_
  obtain rfl := lQ hy
  obtain rfl := aT hx
  obtain ⟨u, rfl, hu⟩ := wj hvs
  obtain ⟨ha, t, rfl⟩ := hv
  revert hq; refine bE fun ys hys h6 => ?_
  clear h5; obtain ⟨_, hsz, rfl⟩ := Option.map_eq_some_iff.mp h6
  clear hvs; obtain ⟨ax, ws, k, rfl, ho, hr⟩ := S.seqOf_lst hu hl
  obtain ⟨hs1, hs2⟩ := lA hr hys
  refine join_list ⟨_, ho, rfl, _, rfl⟩ hs1 (by simpa [Str.length, cC] using of_decide_eq_true (bp hsz)) fun t' k => ?_
  have fin : ∀ (q : Str) (l' : List Nat), q = ⟨l'.toArray⟩ → ar l' = true → PV h₀ C env ρ σ τ' (.str l') (.str q t') { s with toks := k } := fun q l' hq ha => S.str hq ha t' k ht
  refine fin _ _ ?_ (nz (by simpa using ha) hs2)
  rw [← StrLaws.glued_eq_join]
  rfl
 ·revert h; refine bE fun y hy => ?_
  refine bE fun x hx => ?_
  refine bE fun z hz => ?_
  refine mE fun _ hsz h5 => ?_
  refine p2 h5 ?_
  obtain rfl := lQ hy
  obtain rfl := aT hx
  clear hy; obtain rfl := aT hz
  obtain ⟨u, rfl, hu⟩ := wj hvs
  obtain ⟨ha, t, rfl⟩ := hv
  clear hvs; obtain ⟨_, t', rfl⟩ := hu
  obtain ⟨m, hm, F, N⟩ := S.frm
  obtain ⟨hz1, hz2⟩ := Bool.and_eq_true_iff.mp (bp hsz)
  refine splitN1 F N (by simp only [Str.length, List.size_toArray, eq_of_beq hz1]; rfl) (fun l h' k e F' N' => ?_) (by simpa [Str.length, cC, sizeLine] using hz2)
  have S' := S.ofFr hm F' (more := [_]) N' k
  obtain ⟨a1, a2, a3, a4⟩ := S.fresh (bg s.heap)
  exact S'.newLst (s₀ := s) (N' _ (List.mem_cons_self ..)).1 a1 a3 a4 a2 (xK e fun y hy => lC (by simpa using ha) y hy) ht
 ·revert h; refine bE fun x hx => ?_
  refine bE fun l hl => ?_
  refine bE fun i hi => ?_
  refine bE fun ns hns => ?_
  refine mE fun _ hc h6 => ?_
  refine p2 h6 ?_
  obtain rfl := lQ hx
  obtain rfl := ek hl
  clear hx; obtain rfl := aH hi
  obtain ⟨u, rfl, hu⟩ := wj hvs
  have hc := bp hc
  simp only [Bool.and_eq_true, List.contains_iff_mem, decide_eq_true_eq] at hc
  obtain ⟨⟨h1, h2⟩, h3⟩ := hc
  obtain ⟨ax, ws, k, rfl, ho, hr⟩ := hv
  clear hvs; obtain ⟨t, rfl⟩ := hu
  obtain ⟨l1, l2, l3⟩ := l7 h3
  refine index_list_ints (vs := ws.toList) (by rw [Array.toArray_toList]; exact ⟨_, S.imm _ _ ho, rfl, _, rfl⟩) (gq hr hns) ?_ h1 (S.int _ _ _ ht)
  have hw : PyData.weightAll (ns.map .int) ≤ 2 ^ 20 := by
   have e20 : (2 : Nat) ^ 20 = 1048576 := by decide
   rw [e20]; lia
  have hd : PyData.depth (.list (ns.map .int)) ≤ 64 := by simp only [PyData.depth, l2]; lia
  show (PyData.canLayAll0 (ns.map .int) && decide (PyData.depth (.list (ns.map .int)) ≤ 64) && decide (PyData.weightAll (ns.map .int) ≤ 2 ^ 20)) = true
  rw [l1, decide_eq_true hd, decide_eq_true hw]
  rfl
 ·revert h; refine bE fun y hy => ?_
  refine bE fun i hi => ?_
  refine bE fun l hl => ?_
  refine mE fun _ hsz h5 => ?_
  refine p2 h5 ?_
  obtain rfl := lQ hy
  obtain rfl := cB hi
  obtain ⟨u, rfl, hu⟩ := wj hvs
  have hl := bY hl
  obtain ⟨ax, ws, k, rfl, hm, b5, b6, e⟩ := S.ptrAt hv hl
  refine append_at b5 (fun h' hs ho => ?_) (by rw [dL, e]; exact of_decide_eq_true (bp hsz))
  have hap := b6.append hvs
  rw [← Array.toList_push] at hap
  have S' := S.setLst hl hm hs.extBut ho hap s.toks
  exact .of ((S'.sub ht).put rfl)
 ·revert h; refine bE fun _ h0 => ?_
  refine bE fun i hi => ?_
  refine bE fun l hl => ?_
  refine bE fun _ hsz => ?_
  refine mE fun x hx h6 => ?_
  refine p2 h6 ?_
  obtain rfl := yG h0
  obtain rfl := cB hi
  obtain rfl := BD hvs
  exact xM S ht hv (bY hl) (of_decide_eq_true (bp hsz)) hx
 ·revert h; refine bP fun x y hx => ?_
  refine bE fun t hd => ?_
  refine bE fun q hq => ?_
  refine mE fun r' hr' h5 => ?_
  refine p2 h5 ?_
  obtain rfl := Bd hx
  obtain rfl := eJ hd
  clear hx; obtain rfl := aT hq
  obtain ⟨u, u', rfl, hu, hu'⟩ := EX hvs
  refine q2_ hv ?_
  clear hvs; obtain ⟨_, t, rfl⟩ := hu
  obtain ⟨es, hm, lo, hf⟩ := mW (HT _ _ hr') (fun a o e => S.phi _ _ (S.base _ _ e))
  refine call_meetsIn F.slot_dict_get hm.typeIs F.entry_dict_get (F.args_dict_get_3 _ _ _) (meets_dict_get_default _ _ (strKind_is PW w _ t) lo u') ⟨_, hm, ?_⟩
  have hq := hf (by assumption)
  refine (?_ : PV h₀ C env ρ σ τ' _ _ _)
  split at hq
  ·rename_i e
   obtain ⟨i, tk, rfl, h2⟩ := hq
   rw [h2, e]
   exact S.int _ _ _ ht
  ·rename_i e
   rw [hq, e]
   exact .of (((S.toks _).sub ht).put hu')
end
end
section
set_option maxRecDepth 4000
structure LoadB (mg mb : Str → Option Value) (x : Str) (v : Value) : Prop where
 nd : (x == ("__debug__" : Str)) = false
 at_ : mg x = some v ∨ (mg x = none ∧ mb x = some v)
noncomputable def Dp : Str × D → Str × Value
 | (x, .bool b) => (x, .bool b)
 | (x, _) => (x, .none)
noncomputable def CallJ (w : World) (h₀ : Heap) (k : Nat) (a : Addr) (ds : List D) (kws : List (Str × D)) (σ : aa) (r : D) (σ' : aa) : Prop :=
 ∀ (C : Cx) (env : Env) (g : PH) (μ : Mu) (ρ : aj) (τ : List (Value × D)) (vs : List Value) (A : Around) (s : Shared), Room k A → St h₀ C env g μ ρ σ τ s → RdAll μ g vs ds →
  wpAny (model PW w) A (call (.ref a) vs (kws.map Dp)) (PV h₀ C env ρ σ' τ r) be s
noncomputable def bU (w : World) (h₀ : Heap) (a : Addr) : Prop :=
 ∀ h : Heap, (∀ b o, h₀.get? b = some o → h.get? b = some o) → ∃ k, (k = Keeper.frame ∨ k = Keeper.machine ∨ k = Keeper.boundFrame) ∧ Looks (model PW w) h (keeperOf (.ref a)) k
structure Bs (w : World) (h₀ : Heap) (mg mb : Str → Option Value) : Prop where
 g : h₀.Ns mainGlobals mg
 b : h₀.Ns builtinsNs mb
 nolimit : h₀.NoLimit
structure OrcOK (w : World) (h₀ : Heap) (mg mb : Str → Option Value) (k : Nat) (o : aO) : Prop where
 bs : Bs w h₀ mg mb
 tab : ∀ t r, o.tab t = some r → ew w h₀ t r
 glob : ∀ x d, o.glob x = some d → ∃ v, LoadB mg mb x v ∧ ∀ μ g, Rd μ g v d
 blt : ∀ x F, bfs.lookup x = some F → LoadB mg mb x F.val
 lst : LoadB mg mb (S "list") (.type "list")
 rng : LoadB mg mb (S "range") (.type "range")
 fn : ∀ x ds σ r σ', o.fn x ds σ = some (r, σ') → ∃ a, LoadB mg mb x (.ref a) ∧ bU w h₀ a ∧ CallJ w h₀ k a ds [] σ r σ'
 new : ∀ x ds σ r σ', o.new x ds σ = some (r, σ') → ∃ a, LoadB mg mb x (.ref a) ∧ bU w h₀ a ∧ CallJ w h₀ k a ds [] σ r σ'
 meth : ∀ c m ds kws σ r σ', o.meth c m ds kws σ = some (r, σ') → ∃ a, bU w h₀ a ∧ CallJ w h₀ k a ds kws σ r σ' ∧
  ∀ (A : Around) (E : Value → Shared → Prop) (s : Shared) (x dd : Addr) (mm : Str → Option Value) (pl : Sem Bool) (Q : Value × List Value → Shared → Prop), (∀ b o, h₀.get? b = some o → s.heap.get? b = some o) → GI s.heap.get? x c dd → s.heap.Ns1 dd mm → mm m = none →
   Q (.ref a, [.ref x]) s → wpAny (model PW w) A (getMethod (.ref x) m pl) Q E s
 bmeth : ∀ t m ds r, o.bmeth t m ds = some r → ∃ id, (∀ (A : Around) (E : Value → Shared → Prop) (s : Shared) (pl : Sem Bool) (Q : Value × List Value → Shared → Prop), (∀ b o, h₀.get? b = some o → s.heap.get? b = some o) → Q (.builtin id, [.ref t]) s → wpAny (model PW w) A (getMethod (.ref t) m pl) Q E s) ∧
  ∀ (C : Cx) (env : Env) (g : PH) (μ : Mu) (ρ : aj) (σ : aa) (τ : List (Value × D)) (vs : List Value) (A : Around) (s : Shared), Room k A → St h₀ C env g μ ρ σ τ s → RdAll μ g vs ds → wpAny (model PW w) A (call (.builtin id) (.ref t :: vs)) (PV h₀ C env ρ σ τ r) be s
 attr : ∀ a x d, o.attr a x = some d → ∃ v, (∀ μ g, Rd μ g v d) ∧ ∀ (A : Around) (E : Value → Shared → Prop) (s : Shared) (Q : Value → Shared → Prop), (∀ b o, h₀.get? b = some o → s.heap.get? b = some o) → (∀ t, Q v { s with toks := t }) → wpAny (model PW w) A (getAttr (.ref a) x true) Q E s
 fldG : ∀ c x, o.fld c x = true → ∀ (A : Around) (E : Value → Shared → Prop) (s : Shared) (a dd : Addr) (mm : Str → Option Value) (v : Value) (Q : Value → Shared → Prop), (∀ b o, h₀.get? b = some o → s.heap.get? b = some o) → GI s.heap.get? a c dd → s.heap.Ns1 dd mm → mm x = some v → handedOut v = pure v →
   (∀ t, Q v { s with toks := t }) → wpAny (model PW w) A (getAttr (.ref a) x true) Q E s
 fldS : ∀ c x, o.fld c x = true → ∀ (A : Around) (E : Value → Shared → Prop) (s : Shared) (a dd : Addr) (mm : Str → Option Value) (v : Value) (ns : List Str) (Q : Unit → Shared → Prop), (∀ b o, h₀.get? b = some o → s.heap.get? b = some o) → GI s.heap.get? a c dd → s.heap.Ns1 dd mm → Within mm ns → ns.length ≤ 1000 →
   (∀ h' t, h'.Ns1 dd (fun y => if y = x then some v else mm y) → Heap.ExtBut dd s.heap h' → Q () { s with heap := h', toks := t }) → wpAny (model PW w) A (setAttr (.ref a) x v) Q E s
section
variable {h₀ : Heap} {C : Cx} {env : Env} {g : PH} {μ : Mu} {ρ ρ' : aj} {σ σ' σ₁ σ₂ : aa} {τ τ' : List (Value × D)} {s : Shared} {w : World} {A : Around} {n k : Nat} {a b v : Value} {da db d r : D} {f : Fn} {p : Pos} {o : aO} {mg mb : Str → Option Value}
theorem p8 {μ : Mu} {g : PH} {v : Value} {d : D} (h : Rd μ g v d) : handedOut v = pure v := by
 cases d with
 | none => subst h; rfl
 | bool b => subst h; rfl
 | int i => obtain ⟨t, rfl⟩ := h; rfl
 | str x => obtain ⟨_, t, rfl⟩ := h; rfl
 | typ n => subst h; rfl
 | tup l => obtain ⟨a, _, _, rfl, _⟩ := h; rfl
 | lst l => obtain ⟨a, _, _, rfl, _⟩ := h; rfl
 | obj c fs => obtain ⟨a, _, _, rfl, _⟩ := h; rfl
 | ptr i => obtain ⟨a, _, _, rfl⟩ := h; rfl
 | base a => subst h; rfl
theorem St.baseK (S : St h₀ C env g μ ρ σ τ s) : ∀ b o, h₀.get? b = some o → s.heap.get? b = some o := fun b o e => S.phi _ _ (S.base _ _ e)
theorem dv (B : Bs w h₀ mg mb) (S : St h₀ C env g μ ρ σ τ s) (V : SEnv f env) {x : Str} {v : Value} (hx : f.isG x = true) (hl : LoadB mg mb x v) {Q : Value → Shared → Prop} {E : Value → Shared → Prop} (hQ : Q v s) :
  wpAny (model PW w) A (eval (.Name x p) env) Q E s := by
 obtain ⟨kd, hk, hx⟩ := cN hx
 cases kd <;> first | exact eY hx | skip
 refine Calls.Name_function_global V.kind (V.gl _ hk) ?_ hl.nd
 have hg := B.g.keeps S.baseK
 have hb := B.b.keeps S.baseK
 rcases hl.at_ with h | ⟨h1, h2⟩
 ·exact Calls.loadGlobal_global (by rw [V.glob]; exact hg) h hQ
 ·exact Calls.loadGlobal_builtin (by rw [V.glob]; exact hg) h1 (by rw [V.blt]; exact hb) h2 hQ
noncomputable def de (e : Expr) : Bool := by
 cases e with
 | Starred | Set | SetComp | DictComp => exact false
 | _ => exact true
noncomputable def EvS (w : World) (h₀ : Heap) (k : Nat) (f : Fn) (ev : cy) : Prop :=
 ∀ e ρ σ d σ', (ev e ρ σ).run = some (d, σ') → de e = true ∧ ∀ (C : Cx) (env : Env) (g : PH) (μ : Mu) (τ : List (Value × D)) (A : Around) (s : Shared), SEnv f env → Room k A → St h₀ C env g μ ρ σ τ s →
  wpAny (model PW w) A (eval e env) (PV h₀ C env ρ σ' τ d) be s
noncomputable def ud (w : World) (h₀ : Heap) (k : Nat) (f : Fn) (tr : fN) : Prop :=
 ∀ e ρ σ b σ', (tr e ρ σ).run = some (b, σ') → ∀ (C : Cx) (env : Env) (g : PH) (μ : Mu) (τ : List (Value × D)) (A : Around) (s : Shared), SEnv f env → Room k A → St h₀ C env g μ ρ σ τ s →
  wpAny (model PW w) A (isTrue e env (eval e env)) (fun c s' => c = b ∧ PU h₀ C env ρ σ' τ s') be s
noncomputable def PA (h₀ : Heap) (C : Cx) (env : Env) (ρ : aj) (σ : aa) (τ : List (Value × D)) (ds : List D) (vs : List Value) (s : Shared) : Prop :=
 ∃ g μ, St h₀ C env g μ ρ σ τ s ∧ RdAll μ g vs ds
theorem EvS.ns {w : World} {h₀ : Heap} {k : Nat} {f : Fn} {ev : cy} (He : EvS w h₀ k f ev) {e : Expr} {ρ : aj} {σ σ' : aa} {d : D} (h : (ev e ρ σ).run = some (d, σ')) : de e = true := (He _ _ _ _ _ h).1
theorem EvS.pv {w : World} {h₀ : Heap} {k : Nat} {f : Fn} {ev : cy} (He : EvS w h₀ k f ev) {e : Expr} {ρ : aj} {σ σ' : aa} {d : D} (h : (ev e ρ σ).run = some (d, σ')) {C : Cx} {env : Env} {g : PH} {μ : Mu} {τ : List (Value × D)} {A : Around} {s : Shared} (V : SEnv f env) (R : Room k A) (S : St h₀ C env g μ ρ σ τ s) : wpAny (model PW w) A (eval e env) (PV h₀ C env ρ σ' τ d) be s := (He _ _ _ _ _ h).2 C env g μ τ A s V R S
theorem EvS.go {w : World} {h₀ : Heap} {k : Nat} {f : Fn} {ev : cy} (He : EvS w h₀ k f ev) {e : Expr} {ρ : aj} {σ σ' : aa} {d : D} (h : (ev e ρ σ).run = some (d, σ')) {C : Cx} {env : Env} {g : PH} {μ : Mu} {τ : List (Value × D)} {A : Around} {s : Shared} (V : SEnv f env) (R : Room k A) (S : St h₀ C env g μ ρ σ τ s) {Q : Value → Shared → Prop}
 (hQ : ∀ v s' g' μ', St h₀ C env g' μ' ρ σ' ((v, d) :: τ) s' → Q v s') {E : Value → Shared → Prop} : wpAny (model PW w) A (eval e env) Q E s := aU (He.pv h V R S) hQ
theorem EvS.int {w : World} {h₀ : Heap} {k : Nat} {f : Fn} {ev : cy} (He : EvS w h₀ k f ev) {e : Expr} {ρ : aj} {σ σ' : aa} {i : Int} (h : (ev e ρ σ).run = some (.int i, σ')) {C : Cx} {env : Env} {g : PH} {μ : Mu} {τ : List (Value × D)} {A : Around} {s : Shared} (V : SEnv f env) (R : Room k A) (S : St h₀ C env g μ ρ σ τ s) {Q : Value → Shared → Prop}
 (hQ : ∀ t s' g' μ', St h₀ C env g' μ' ρ σ' ((.int i t, .int i) :: τ) s' → Q (.int i t) s') {E : Value → Shared → Prop} : wpAny (model PW w) A (eval e env) Q E s :=
 He.go h V R S fun v s' g' μ' S' => by obtain ⟨t, rfl⟩ := S'.tmp _ (List.mem_cons_self ..); exact hQ t s' g' μ' S'
theorem bF {es : List Expr} (h : ∀ e ∈ es, de e = true) : starEach es env = es.map fun e => (false, eval e env) := by
 induction es with
 | nil => rfl
 | cons e es ih =>
  have := h e (List.mem_cons_self ..)
  have ih' := ih fun x hx => h x (List.mem_cons_of_mem _ hx)
  clear h; cases e <;> first | (cases this; done) | (rw [List.map_cons, ← ih']; rfl)
theorem cj {ev : cy} (He : EvS w h₀ k f ev) : ∀ {es : List Expr} {ρ : aj} {σ σ' : aa} {ds : List D}, (bB ev es ρ σ).run = some (ds, σ') → ∀ e ∈ es, de e = true
 | [], _, _, _, _, _, e, he => nomatch he
 | x :: es, ρ, σ, σ', ds, h, e, he => by
  revert h; refine tP fun d σ₁ h1 => ?_
  refine tK fun ds' σ₂ h3 _ => ?_
  rcases List.mem_cons.mp he with rfl | he
  ·exact (He.ns h1)
  ·exact cj He h3 e he
theorem iN {ev : cy} (He : EvS w h₀ k f ev) (V : SEnv f env) (R : Room k A) : ∀ (es : List Expr) {σ σ' : aa} {ds : List D} {τ : List (Value × D)} {g : PH} {μ : Mu} {s : Shared}, (bB ev es ρ σ).run = some (ds, σ') → St h₀ C env g μ ρ σ τ s →
  wpAny (model PW w) A (spliced (es.map fun e => (false, eval e env))) (PA h₀ C env ρ σ' τ ds) be s
 | [], σ, σ', ds, τ, g, μ, s, h, S => by
  cases h
  exact Calls.spliced_nil ⟨g, μ, S, trivial⟩
 | e :: es, σ, σ', ds, τ, g, μ, s, h, S => by
  revert h; refine tP fun d σ₁ h1 => ?_
  refine tK fun ds' σ₂ h3 h4 => ?_
  cases h4
  rw [List.map_cons]
  refine Calls.spliced_cons (He.go h1 V R S fun v s' g' μ' S' => ?_)
  refine wpAny_mono (iN He V R es h3 S') (fun vs s'' ⟨g'', μ'', S'', hr⟩ => ⟨g'', μ'', S''.sub dk, ?_⟩) fun _ _ x => x
  exact ⟨S''.tmp _ (List.mem_cons_self ..), hr⟩
theorem lj {ev : cy} (He : EvS w h₀ k f ev) (V : SEnv f env) (R : Room k A) {es : List Expr} {ds : List D} {fv : Value} (h : (bB ev es ρ σ).run = some (ds, σ')) (S : St h₀ C env g μ ρ σ τ s) {Q : Args → Shared → Prop} {E : Value → Shared → Prop}
  (hQ : ∀ vs s', PA h₀ C env ρ σ' τ ds vs s' → Q ⟨vs, []⟩ s') : wpAny (model PW w) A (evalArgs fv true (backTo p (starEach es env)) []) Q E s := by
 have e1 := bF (env := env) (cj He h)
 have e2 : backTo p (starEach es env) = es.map fun e => (false, eval e env) := by
  rw [e1]; unfold backTo; rw [List.map_map]; rfl
 rw [e2]
 have hs := iN He V R es h S
 cases es with
 | nil =>
  clear hs; cases h
  exact PyProof.Rows.evalArgs_none (hQ [] s ⟨g, μ, S, trivial⟩)
 | cons e es =>
  rw [List.map_cons] at hs ⊢
  exact Calls.evalArgs_plain (wpAny_mono hs (fun vs s' h' => hQ vs s' h') fun _ _ x => x.elim)
theorem iw {ev : cy} (He : EvS w h₀ k f ev) {es : List Expr} {ds : List D} (h : (bB ev es ρ σ).run = some (ds, σ')) : (backTo p (starEach es env)).any (·.1) = false := by
 rw [bF (cj He h)]
 simp [backTo]
theorem eg {ev : cy} (He : EvS w h₀ k f ev) (V : SEnv f env) (R : Room k A) {es : List Expr} {ds : List D} {first : List Value} {fv : Value} (hf : (∃ id, fv = .builtin id) ∨ ∃ T, fv = .type T) (h : (bB ev es ρ σ).run = some (ds, σ')) (S : St h₀ C env g μ ρ σ τ s)
  {Q : Value → Shared → Prop} {E : Value → Shared → Prop} (hc : ∀ vs s', PA h₀ C env ρ σ' τ ds vs s' → wpAny (model PW w) A (call fv (first ++ vs)) Q E s') :
  wpAny (model PW w) A (callWith p fv first (backTo p (starEach es env)) []) Q E s := by
 rcases hf with ⟨id, rfl⟩ | ⟨T, rfl⟩
 ·exact Calls.callWith_builtin (iw He h) (lj He V R h S fun vs s' h' => hc vs s' h')
 ·exact PySem.callWith_type (iw He h) (lj He V R h S fun vs s' h' => hc vs s' h')
end
end
section
set_option maxRecDepth 4000
structure Stepd (wr : List Addr) (gi : Option Nat) (s s' : Shared) : Prop where
 heap : ∀ b o, b ∉ wr → s.heap.get? b = some o → s'.heap.get? b = some o
 os : s'.os = s.os
 bare : AllBare s'.gens
 gens : ∀ (j : Nat) (x : GenState), some j ≠ gi → s.gens[j]? = some x → s'.gens[j]? = some x
structure Wk (w : World) (A : Around) (it : Value) (gi : Option Nat) (n : Nat) (P : Nat → Value → Shared → Shared → List Addr → Prop) (Pst : Nat → List Addr → List Addr → Shared → Prop) : Prop where
 sub : ∀ i fp wr s, Pst i fp wr s → ∀ b ∈ wr, b ∈ fp
 frame : ∀ i fp wr (s s' : Shared), Pst i fp wr s → (∀ b ∈ fp, ∀ o, s.heap.get? b = some o → s'.heap.get? b = some o) → (∀ (j : Nat) (x : GenState), s.gens[j]? = some x → s'.gens[j]? = some x) → Pst i fp wr s'
 shape : ∀ i fp wr (s : Shared), Pst i fp wr s → ∀ b ∈ fp, ∃ o, s.heap.get? b = some o ∧ ∀ v, o.data ≠ .cell v
 item : ∀ i fp wr (s : Shared) (Q : Option Value → Shared → Prop) (E : Value → Shared → Prop), AllBare s.gens → i < n → Pst i fp wr s →
  (∀ v s' fp' wr', P i v s s' wr' → Pst (i + 1) fp' wr' s' → Stepd wr gi s s' → (∀ b ∈ fp', b ∈ fp ∨ s.heap.get? b = none) → (∀ b ∈ wr', b ∈ wr ∨ s.heap.get? b = none) → Q (some v) s') → wpAny (model PW w) A (pyNext it) Q E s
 done : ∀ fp wr (s : Shared) (Q : Option Value → Shared → Prop) (E : Value → Shared → Prop), AllBare s.gens → Pst n fp wr s →
  (∀ s', Stepd wr gi s s' → Q none s') → wpAny (model PW w) A (pyNext it) Q E s
 self : ∀ i fp wr (s : Shared) (Q : Value → Shared → Prop) (E : Value → Shared → Prop), Pst i fp wr s → Q it s → wpAny (model PW w) A (pyIter it) Q E s
 go : ∀ i fp wr (s : Shared) (elts : List Expr) k pos v (Q : Unit → Shared → Prop) (E : Value → Shared → Prop), Pst i fp wr s → Q () s → wpAny (model PW w) A (letOwnedTupleGo (.Tuple elts k pos) it v) Q E s
inductive D7 (v : Value) (d : D) (h h' : Heap) (wr : List Addr) : Prop
 | mk (a : Addr) (l : List D) (vs : Array Value) (c : Nat) (e1 : v = .ref a) (e2 : d = .tup l) (h1 : h.get? a = none) (h2 : h'.get? a = some (jN vs c)) (h3 : a ∉ wr) (h4 : ∀ μ g, RdAll μ g vs.toList l) : D7 v d h h' wr
noncomputable def NewTup (v : Value) (d : D) (s s' : Shared) (wr : List Addr) : Prop := D7 v d s.heap s'.heap wr
noncomputable def lkOf (μ : Mu) (σ : aa) (m : Addr) : Prop := ∃ (i : Nat) (l : List D) (a : Addr), σ[i]? = some (.lock l) ∧ μ[i]? = some (a, m)
noncomputable def Cx.add (C : Cx) (g : PH) (μ : Mu) (σ : aa) (s : Shared) (fp : List Addr) : Cx := ⟨fun b => if b ∈ fp then s.heap.get? b else C.Φ b, g, μ, C.os, s.gens, lkOf μ σ⟩
section
variable {h₀ : Heap} {C : Cx} {env : Env} {g : PH} {μ : Mu} {ρ ρ' : aj} {σ σ' σ₁ σ₂ : aa} {τ τ' : List (Value × D)} {s s' : Shared} {w : World} {A : Around} {n k : Nat} {f : Fn} {p : Pos} {o : aO}
 {it : Value} {fp wr : List Addr} {gi : Option Nat} {P : Nat → Value → Shared → Shared → List Addr → Prop} {Pst : Nat → List Addr → List Addr → Shared → Prop}
structure Off (C : Cx) (env : Env) (g : PH) (μ : Mu) (σ : aa) (fp wr : List Addr) (gi : Option Nat) : Prop where
 loc : ∀ b ∈ fp, b ≠ env.locals
 live : ∀ b ∈ fp, ∀ (i : Nat) (so : SO) (x m : Addr), σ[i]? = some so → Live so → μ[i]? = some (x, m) → m ≠ b
 occ : ∀ b ∈ wr, ∀ (i : Nat) (so : SO) (x m : Addr), σ[i]? = some so → jw so → μ[i]? = some (x, m) → m ≠ b
 Φ : ∀ b ∈ wr, C.Φ b = none
 g : ∀ b ∈ wr, g b = none
 gn : ∀ j, gi = some j → C.gn[j]? = none
theorem St.step (S : St h₀ C env g μ ρ σ τ s) (O : Off C env g μ σ fp wr gi) (hsub : ∀ b ∈ wr, b ∈ fp) (hf : ∀ b ∈ fp, ∃ o, s.heap.get? b = some o ∧ ∀ v, o.data ≠ .cell v)
  (X : Stepd wr gi s s') : St h₀ C env g μ ρ σ τ s' := by
 have hcell : ∀ c v, s.heap.IsCell c v → c ∉ wr := by
  rintro c v ⟨oc, h1, h2⟩ hb
  obtain ⟨ob, h3, h4⟩ := hf _ (hsub _ hb)
  rw [h1] at h3
  cases h3
  exact h4 _ h2
 have kc : ∀ c v, s.heap.IsCell c v → s'.heap.IsCell c v := fun c v hc => by
  have := hcell c v hc
  obtain ⟨oc, h1, h2⟩ := hc
  exact ⟨oc, X.heap _ _ this h1, h2⟩
 have kn : ∀ c m, s.heap.Ns c m → c ∉ wr → s'.heap.Ns c m := fun c m hc hb => by
  obtain ⟨oc, es, ep, h1, h2⟩ := hc
  exact ⟨oc, es, ep, X.heap _ _ hb h1, h2⟩
 exact { S with
  phi := fun b o h => X.heap _ _ (fun hb => by rw [O.Φ _ hb] at h; cases h) (S.phi b o h)
  imm := fun b o h => X.heap _ _ (fun hb => by rw [O.g _ hb] at h; cases h) (S.imm b o h)
  sto := fun i so hi => by
   obtain ⟨a, m, e1, k⟩ := S.sto i so hi
   refine ⟨a, m, e1, ?_⟩
   cases so with
   | dead => trivial
   | lock l =>
    have : m ∉ wr := fun hb => O.occ _ hb i _ a m hi trivial e1 rfl
    obtain ⟨b1, b3, b4, vs, n, b5, b6⟩ := k
    clear e1; subst b1
    exact ⟨rfl, b3, b4, vs, n, X.heap _ _ this b5, b6⟩
   | lst l =>
    have : m ∉ wr := fun hb => O.occ _ hb i _ a m hi trivial e1 rfl
    obtain ⟨b1, b2, b3, b4, vs, n, b5, b6⟩ := k
    clear e1; subst b1
    exact ⟨rfl, b2, b3, b4, vs, n, X.heap _ _ this b5, b6⟩
   | inst c fs =>
    have : m ∉ wr := fun hb => O.occ _ hb i _ a m hi trivial e1 rfl
    obtain ⟨b1, b2, b3, b4, mm, b5, b6⟩ := k
    exact ⟨b1, b2, b3, b4, mm, b5.at fun o e => X.heap _ _ this e, b6⟩
  loc := by
   obtain ⟨m, h1, h2⟩ := S.loc
   exact ⟨m, kn _ _ h1 fun hb => O.loc _ (hsub _ hb) rfl, h2⟩
  cel := fun x d hx hk => let ⟨c, v, a1, a2, a3⟩ := S.cel x d hx hk; ⟨c, v, a1, kc _ _ a2, a3⟩
  celW := fun x hf hk => let ⟨c, v, a1, a2, a3⟩ := S.celW x hf hk; ⟨c, v, a1, kc _ _ a2, a3⟩
  bare := X.bare
  gens := fun i x h => X.gens i x (fun e => by rw [O.gn _ e.symm] at h; cases h) (S.gens i x h)
  os := X.os.trans S.os }
theorem Off.grow {fp' wr' : List Addr} (O : Off C env g μ σ fp wr gi) (S : St h₀ C env g μ ρ σ τ s) (h1 : ∀ b ∈ fp', b ∈ fp ∨ s.heap.get? b = none) (h2 : ∀ b ∈ wr', b ∈ wr ∨ s.heap.get? b = none) : Off C env g μ σ fp' wr' gi where
 loc := fun b hb => (h1 b hb).elim (O.loc b) fun h => (S.fresh h).2.2.1
 live := fun b hb i so x m hi hl hm => (h1 b hb).elim (fun h => O.live b h i so x m hi hl hm) fun h => (S.fresh h).2.2.2 i so x m hi hl.occ hm
 occ := fun b hb i so x m hi hl hm => (h2 b hb).elim (fun h => O.occ b h i so x m hi hl hm) fun h => (S.fresh h).2.2.2 i so x m hi hl hm
 Φ := fun b hb => (h2 b hb).elim (O.Φ b) fun h => (S.fresh h).1
 g := fun b hb => (h2 b hb).elim (O.g b) fun h => (S.fresh h).2.1
 gn := O.gn
theorem NewTup.more {v : Value} {d : D} {wr : List Addr} (h : NewTup v d s s' wr) {b : Addr} (hb : v ≠ .ref b) : NewTup v d s s' (b :: wr) := by
 obtain ⟨a, l, vs, c, rfl, e, h1, h2, h3, h4⟩ := h
 refine ⟨a, l, vs, c, rfl, e, h1, h2, fun hm => ?_, h4⟩
 rcases List.mem_cons.mp hm with rfl | hm
 ·exact hb rfl
 ·exact h3 hm
theorem St.got {v : Value} {d : D} {wr' : List Addr} (S : St h₀ C env g μ ρ σ τ s) (S' : St h₀ C env g μ ρ σ τ s') (O : Off C env g μ σ fp wr' gi) (h : Rd μ g v d ∨ NewTup v d s s' wr') :
  ∃ g', St h₀ C env g' μ ρ σ τ s' ∧ Rd μ g' v d ∧ Off C env g' μ σ fp wr' gi ∧ ∀ b o, g b = some o → g' b = some o := by
 rcases h with h | ⟨a, l, vs, c, rfl, rfl, h1, h2, h3, h4⟩
 ·exact ⟨g, S', h, O, fun _ _ e => e⟩
 ·obtain ⟨a1, a2, a3, a4⟩ := S.fresh h1
  refine ⟨_, S'.fix h2 a1 a3 (by intro v e; cases e) a4, ?_, ⟨O.loc, O.live, O.occ, O.Φ, fun b hb => ?_, O.gn⟩, bV (.inl a2)⟩
  ·skip
   exact ⟨a, vs, c, rfl, aP .., h4 _ _⟩
  ·have hne : b ≠ a := by rintro rfl; exact h3 hb
   rw [a0 _ _ hne]
   exact O.g b hb
theorem Cx.add_Φ (S : St h₀ C env g μ ρ σ τ s) : ∀ b o, C.Φ b = some o → (C.add g μ σ s fp).Φ b = some o := fun b o h => by
 simp only [Cx.add]
 split
 ·exact S.phi _ _ h
 ·exact h
theorem St.add (S : St h₀ C env g μ ρ σ τ s) (O : Off C env g μ σ fp wr gi) (hf : ∀ b ∈ fp, ∃ o, s.heap.get? b = some o ∧ ∀ v, o.data ≠ .cell v) : St h₀ (C.add g μ σ s fp) env g μ ρ σ τ s := by
 have off : ∀ m, m ∉ fp → C.Φ m = none → (C.add g μ σ s fp).Φ m = none := fun m hm h => by simp only [Cx.add]; rw [if_neg hm]; exact h
 exact { S with
  base := fun a o h => Cx.add_Φ S _ _ (S.base a o h)
  phi := fun b o h => by
   simp only [Cx.add] at h
   split at h
   ·exact h
   ·exact S.phi _ _ h
  grow := fun a o h => .inl h
  ext := fun a o h => h
  pre := List.prefix_refl _
  sto := fun i so hi => by
   obtain ⟨a, m, e1, k⟩ := S.sto i so hi
   refine ⟨a, m, e1, ?_⟩
   cases so with
   | dead => trivial
   | lock l =>
    obtain ⟨b1, b3, b4, vs, n, b5, b6, _⟩ := k
    exact ⟨b1, b3, b4, vs, n, b5, b6, .inr ⟨i, l, a, hi, e1⟩⟩
   | lst l =>
    obtain ⟨b1, b2, b3, b4, vs, n, b5, b6⟩ := k
    exact ⟨b1, off _ (fun hb => O.live _ hb i _ a m hi trivial e1 rfl) b2, b3, b4, vs, n, b5, b6⟩
   | inst c fs =>
    obtain ⟨b2, b3, b4, b1, mm, b5, b6⟩ := k
    exact ⟨off _ (fun hb => O.live _ hb i _ a m hi trivial e1 rfl) b2, b3, b4, b1, mm, b5, b6⟩
  ownΦ := off _ (fun hb => O.loc _ hb rfl) S.ownΦ
  celW := fun x hf' hk => by
   obtain ⟨c, v, a1, a2, a3, a4⟩ := S.celW x hf' hk
   refine ⟨c, v, a1, a2, off _ (fun hb => ?_) a3, a4⟩
   obtain ⟨oc, h1, h2⟩ := a2
   obtain ⟨ob, h3, h4⟩ := hf _ hb
   rw [h1] at h3
   cases h3
   exact h4 _ h2
  gens := fun i x h => h
  os := S.os }
theorem St.leave {C' : Cx} (S' : St h₀ C' env g μ ρ σ τ s) (hΦ : ∀ b o, C.Φ b = some o → C'.Φ b = some o) (hb : ∀ a o, h₀.get? a = some o → C.Φ a = some o) (hg : ∀ a o, C'.g₀ a = some o → C.g₀ a = some o ∨ C.Φ a = none) (hg' : ∀ a o, C.g₀ a = some o → C'.g₀ a = some o)
  (hμ : C.μ₀ <+: C'.μ₀) (hos : C'.os = C.os) (hgn : ∀ (i : Nat) (x : GenState), C.gn[i]? = some x → C'.gn[i]? = some x) (hlk : ∀ m, C'.lk m → C.Φ m = none ∨ C.lk m) : St h₀ C env g μ ρ σ τ s := by
 have off : ∀ m, C'.Φ m = none → C.Φ m = none := fun m h => by
  cases e : C.Φ m with
  | none => rfl
  | some o => rw [hΦ _ _ e] at h; cases h
 exact { S' with
  base := hb
  phi := fun b o h => S'.phi _ _ (hΦ _ _ h)
  grow := fun a o h => by
   rcases S'.grow a o h with h | h
   ·exact hg _ _ h
   ·exact .inr (off _ h)
  ext := fun a o h => S'.ext _ _ (hg' _ _ h)
  pre := hμ.trans S'.pre
  sto := fun i so hi => by
   obtain ⟨a, m, e1, k⟩ := S'.sto i so hi
   refine ⟨a, m, e1, ?_⟩
   cases so with
   | dead => trivial
   | lock l =>
    obtain ⟨b1, b3, b4, vs, n, b5, b6, b7⟩ := k
    exact ⟨b1, b3, b4, vs, n, b5, b6, b7.elim (fun h => .inl (off _ h)) (hlk _)⟩
   | lst l => obtain ⟨b1, b2, b3, b4, vs, n, b5, b6⟩ := k; exact ⟨b1, off _ b2, b3, b4, vs, n, b5, b6⟩
   | inst c fs => obtain ⟨b2, b3, b4, b1, mm, b5, b6⟩ := k; exact ⟨off _ b2, b3, b4, b1, mm, b5, b6⟩
  ownΦ := off _ S'.ownΦ
  celW := fun x hf hk => let ⟨c, v, a1, a2, a3, a4⟩ := S'.celW x hf hk; ⟨c, v, a1, a2, off _ a3, a4⟩
  gens := fun i x h => S'.gens i x (hgn i x h)
  os := S'.os.trans hos }
theorem St.lkOf (S : St h₀ C env g μ ρ σ τ s) {m : Addr} (h : lkOf μ σ m) : C.Φ m = none ∨ C.lk m := by
 obtain ⟨i, l, a, h1, h2⟩ := h
 have k := S.stoAt h1 h2
 obtain ⟨b1, b3, b4, vs, n, b5, b6, b7⟩ := k
 exact b7
theorem St.leaveAdd {g₁ : PH} {μ₁ : Mu} {ρ₁ : aj} {σ₁ : aa} {τ₁ : List (Value × D)} {s₁ : Shared} (S : St h₀ C env g μ ρ σ τ s) (S' : St h₀ (C.add g μ σ s fp) env g₁ μ₁ ρ₁ σ₁ τ₁ s₁) : St h₀ C env g₁ μ₁ ρ₁ σ₁ τ₁ s₁ :=
 S'.leave (Cx.add_Φ S) S.base (fun a o h => S.grow a o h) (fun a o h => S.ext a o h) S.pre rfl (fun i x h => S.gens i x h) fun m h => S.lkOf h
theorem Off.turn {g₁ : PH} {μ₁ : Mu} {ρ₁ : aj} {σ₁ : aa} {τ₁ : List (Value × D)} {s₁ : Shared} (O : Off C env g μ σ fp wr gi) (hsub : ∀ b ∈ wr, b ∈ fp) (hf : ∀ b ∈ fp, ∃ o, s.heap.get? b = some o ∧ ∀ v, o.data ≠ .cell v)
  (S' : St h₀ (C.add g μ σ s fp) env g₁ μ₁ ρ₁ σ₁ τ₁ s₁) : Off C env g₁ μ₁ σ₁ fp wr gi where
 loc := O.loc
 live := fun b hb i so x m hi hl hm e => by
  subst e
  have k := S'.stoAt hi hm
  obtain ⟨ob, h1, _⟩ := hf _ hb
  have h2 : (C.add g μ σ s fp).Φ m = some ob := by simp only [Cx.add]; rw [if_pos hb]; exact h1
  cases so with
  | dead => cases hl
  | lock l => cases hl
  | lst l => rw [k.e2] at h2; cases h2
  | inst c fs => rw [k.e2] at h2; cases h2
 occ := fun b hb i so x m hi hl hm e => by
  subst e
  have k := S'.stoAt hi hm
  obtain ⟨ob, h1, _⟩ := hf _ (hsub _ hb)
  have h2 : (C.add g μ σ s fp).Φ m = some ob := by simp only [Cx.add]; rw [if_pos (hsub _ hb)]; exact h1
  cases so with
  | dead => cases hl
  | lst l => rw [k.e2] at h2; cases h2
  | inst c fs => rw [k.e2] at h2; cases h2
  | lock l =>
   obtain ⟨b1, b3, b4, vs, n, b5, b6, b7⟩ := k
   rcases b7 with h | ⟨j, l', a', h3, h4⟩
   ·rw [h] at h2; cases h2
   ·exact O.occ _ hb j _ a' m h3 trivial h4 rfl
 Φ := O.Φ
 g := fun b hb => by
  cases e : g₁ b with
  | none => rfl
  | some ob =>
   rcases S'.grow _ _ e with h | h
   ·have h' : g b = some ob := h
    rw [O.g _ hb] at h'; cases h'
   ·obtain ⟨o2, h1, _⟩ := hf _ (hsub _ hb)
    simp only [Cx.add] at h
    rw [if_pos (hsub _ hb), h1] at h
    cases h
 gn := O.gn
noncomputable def PX (h₀ : Heap) (C : Cx) (env : Env) (τ : List (Value × D)) (ρ : aj) (σ : aa) : Fl → Flow → Shared → Prop
 | .next, fl, s => fl = .next ∧ PU h₀ C env ρ σ τ s
 | .brk, fl, s => fl = .brk ∧ PU h₀ C env ρ σ τ s
 | .ret d, fl, s => ∃ v, fl = .ret v ∧ PV h₀ C env ρ σ τ d v s
noncomputable def Ev (w : World) (h₀ : Heap) (k : Nat) (f : Fn) (ex : mQ) : Prop :=
 ∀ st ρ σ fl ρ' σ', (ex st ρ σ).run = some (fl, ρ', σ') → ∀ (C : Cx) (env : Env) (g : PH) (μ : Mu) (τ : List (Value × D)) (A : Around) (s : Shared), SEnv f env → f.own = true → Room k A → St h₀ C env g μ ρ σ τ s →
  wpAny (model PW w) A (exec st env) (PX h₀ C env τ ρ' σ' fl) be s
theorem ee {ex : mQ} (X : Ev w h₀ k f ex) (V : SEnv f env) (hown : f.own = true) (R : Room k A) : ∀ (sts : List Stmt) {ρ ρ' : aj} {σ σ' : aa} {fl : Fl} {g : PH} {μ : Mu} {s : Shared}, (ba ex sts ρ σ).run = some (fl, ρ', σ') → St h₀ C env g μ ρ σ τ s →
  wpAny (model PW w) A (execs sts env) (PX h₀ C env τ ρ' σ' fl) be s
 | [], ρ, ρ', σ, σ', fl, g, μ, s, h, S => by
  refine r3 h ?_
  exact wpAny_execs_nil ⟨rfl, g, μ, S⟩
 | st :: sts, ρ, ρ', σ, σ', fl, g, μ, s, h, S => by
  revert h; refine tT fun f1 ρ₁ σ₁ h1 h2 => ?_
  refine wpAny_execs_cons (wpAny_mono (X _ _ _ _ _ _ h1 C env g μ τ A s V hown R S) (fun fw s' h' => ?_) fun _ _ x => x.elim)
  cases f1 with
  | next =>
   obtain ⟨rfl, g', μ', S'⟩ := h'
   exact ee X V hown R sts h2 S'
  | brk => cases h2; obtain ⟨rfl, h'⟩ := h'; exact ⟨rfl, h'⟩
  | ret d => cases h2; obtain ⟨v, rfl, h'⟩ := h'; exact ⟨v, rfl, h'⟩
end
end
section
set_option maxRecDepth 4000
noncomputable def Cx.at (C : Cx) (g : PH) (μ : Mu) (σ : aa) : Cx := ⟨C.Φ, g, μ, C.os, C.gn, lkOf μ σ⟩
section
variable {h₀ : Heap} {C : Cx} {env : Env} {g g' : PH} {μ μ' : Mu} {ρ ρ' : aj} {σ σ' σ₁ σ₂ : aa} {τ τ' : List (Value × D)} {s s' : Shared} {w : World} {A : Around} {n k : Nat} {f : Fn} {p : Pos} {o : aO}
 {it v : Value} {d : D} {ds : List D} {fp wr : List Addr} {gi lk : Option Nat} {P : Nat → Value → Prop}
theorem St.at (S : St h₀ C env g μ ρ σ τ s) : St h₀ (C.at g μ σ) env g μ ρ σ τ s := { S with
 grow := fun a o h => .inl h
 ext := fun a o h => h
 pre := List.prefix_refl _
 sto := fun i so hi => by
  obtain ⟨a, m, e1, k⟩ := S.sto i so hi
  refine ⟨a, m, e1, ?_⟩
  cases so with
  | dead => trivial
  | lock l =>
   obtain ⟨b1, b3, b4, vs, n, b5, b6, _⟩ := k
   exact ⟨b1, b3, b4, vs, n, b5, b6, .inr ⟨i, l, a, hi, e1⟩⟩
  | lst l => let ⟨b1, b2, b3, b4, vs, n, b5, b6⟩ := k; exact ⟨b1, b2, b3, b4, vs, n, b5, b6⟩
  | inst c fs => let ⟨b2, b3, b4, b1, mm, b5, b6⟩ := k; exact ⟨b2, b3, b4, b1, mm, b5, b6⟩ }
theorem St.leaveAt (S : St h₀ C env g μ ρ σ τ s) (S' : St h₀ (C.at g μ σ) env g' μ' ρ' σ' τ' s') : St h₀ C env g' μ' ρ' σ' τ' s' :=
 S'.leave (fun b o h => h) S.base (fun a o h => S.grow a o h) (fun a o h => S.ext a o h) S.pre rfl (fun i x h => h) fun m h => S.lkOf h
theorem Off.at (O : Off C env g μ σ fp wr gi) : Off (C.at g μ σ) env g μ σ fp wr gi := ⟨O.loc, O.live, O.occ, O.Φ, O.g, O.gn⟩
theorem oH {so : SO} {l : List D} (h : rD so = some l) : so = .lock l := by cases so <;> cases h; rfl
theorem St.flip (S : St h₀ C env g μ ρ σ τ s) {i : Nat} {so so' : SO} {a m : Addr} (hi : σ[i]? = some so) (hl : jw so) (hm : μ[i]? = some (a, m)) (hx : SoOK C env μ g s.heap a m so') : St h₀ C env g μ ρ (σ.set i so') τ s := { S with
 len := by simp [S.len]
 dist := fun p q so1 so2 a1 m1 a2 m2 h1 l1 h2 l2 e1 e2 em => by
  have old : ∀ (p : Nat) (so1 : SO), (σ.set i so')[p]? = some so1 → jw so1 → ∃ so1', σ[p]? = some so1' ∧ jw so1' := fun p so1 h1 l1 => by
   clear hx h2; rcases cZ h1 with ⟨rfl, _, rfl⟩ | ⟨_, h1⟩
   ·exact ⟨so, hi, hl⟩
   ·exact ⟨so1, h1, l1⟩
  obtain ⟨x1, y1, z1⟩ := old p so1 h1 l1
  obtain ⟨x2, y2, z2⟩ := old q so2 h2 l2
  exact S.dist p q x1 x2 a1 m1 a2 m2 y1 z1 y2 z2 e1 e2 em
 sto := fun p so1 h1 => by
  rcases cZ h1 with ⟨rfl, _, rfl⟩ | ⟨hne, h1⟩
  ·exact ⟨a, m, hm, hx⟩
  ·exact S.sto p so1 h1 }
theorem St.unlock (S : St h₀ C env g μ ρ σ τ s) (S' : St h₀ (C.at g μ σ) env g' μ' ρ' σ' τ' s') (h : bL σ' lk = some σ₂) (hlk : ∀ i, lk = some i → ∃ a m, μ[i]? = some (a, m) ∧ C.Φ m = none) : St h₀ C env g' μ' ρ' σ₂ τ' s' := by
 have T := S.leaveAt S'
 cases lk with
 | none =>
  cases h
  exact T
 | some i =>
  revert h; refine bE fun so hi h2 => ?_
  obtain ⟨l, hl, rfl⟩ := Option.map_eq_some_iff.mp h2
  clear h2; obtain rfl := oH hl
  obtain ⟨a, m, e1, e2⟩ := hlk i rfl
  have e3 : μ'[i]? = some (a, m) := by
   clear T; obtain ⟨t, rfl⟩ := S'.pre
   show (μ ++ t)[i]? = _
   rw [List.getElem?_append_left ((List.getElem?_eq_some_iff.mp e1).1)]; exact e1
  have k := T.stoAt hi e3
  obtain ⟨b1, b3, b4, vs, n, b5, b6, _⟩ := k
  exact T.flip hi trivial e3 ⟨b1, e2, b3, b4, vs, n, b5, b6⟩
noncomputable def owners : List String := ["enumerate", "zip", "dict_itemiterator", "dict_reverseitemiterator", "odict_iterator", "itertools.zip_longest", "itertools.pairwise"]
theorem ie {I : Addr} {ob : Obj} {nm : String} {elts : List Expr} {x1 : Nat} {pos : Pos} {Q : Unit → Shared → Prop} {E : Value → Shared → Prop} (ho : s.heap.get? I = some ob) (hc : ob.cls = .type nm) (hn : owners.contains nm = false) (hQ : Q () s) :
  wpAny (model PW w) A (letOwnedTupleGo (.Tuple elts x1 pos) (.ref I) v) Q E s := by
 cases v <;> try exact wpAny_pure hQ
 rename_i a
 refine wpAny_bind (m := load I) (wpAny_load ho ?_)
 rw [hc]
 generalize ob.data = od
 cases od <;> first | exact wpAny_pure hQ | skip
 show wpAny _ A (if (owners.contains nm && _) = true then _ else _) Q E s
 rw [hn, Bool.false_and, if_neg Bool.false_ne_true]
 exact wpAny_pure hQ
theorem Wk.of {I : Addr} {St : Nat → Heap → Prop} (hA : A.handled = none) (W : ∀ A' : Around, A'.handled = none → Walks PW w A' I fp wr n P St) (hs : ∀ i h, St i h → ∀ b ∈ fp, ∃ o : Obj, h.get? b = some o ∧ ∀ v, o.data ≠ .cell v)
  (ho : ∀ i (h : Heap), St i h → ∃ (o : Obj) (nm : String), h.get? I = some o ∧ o.cls = .type nm ∧ owners.contains nm = false) : Wk w A (.ref I) none n (fun i v _ _ _ => P i v) (fun i fp' wr' s => fp' = fp ∧ wr' = wr ∧ St i s.heap) where
 sub := fun i fp' wr' s ⟨e1, e2, _⟩ => by subst e1; subst e2; exact (W {} rfl).sub
 frame := fun i fp' wr' s s' ⟨e1, e2, st⟩ hk _ => ⟨e1, e2, (W {} rfl).frame i _ _ st (e1 ▸ hk)⟩
 shape := fun i fp' wr' s ⟨e1, _, st⟩ => e1 ▸ hs i _ st
 item := fun i fp' wr' s Q E B hi ⟨e1, e2, st⟩ hQ => (W A hA).item i s Q E hi st fun v h' tk hP hst hk => hQ v _ fp' wr' hP ⟨e1, e2, hst⟩ (e2 ▸ ⟨hk, rfl, B, fun j x _ e => e⟩) (fun b hb => .inl hb) (fun b hb => .inl hb)
 done := fun fp' wr' s Q E B ⟨e1, e2, st⟩ hQ => (W A hA).done s Q E st fun h' tk hk => hQ _ (e2 ▸ ⟨hk, rfl, B, fun j x _ e => e⟩)
 self := fun i fp' wr' s Q E ⟨_, _, st⟩ hQ => (W A hA).self i s Q E st hQ
 go := fun i fp' wr' s elts k pos v Q E ⟨_, _, st⟩ hQ => by
  obtain ⟨ob, nm, h1, h2, h3⟩ := ho i _ st
  exact ie h1 h2 h3 hQ
end
end
section
set_option maxRecDepth 4000
inductive PI (w : World) (A : Around) (h₀ : Heap) (C : Cx) (env : Env) (ρ : aj) (σ : aa) (τ : List (Value × D)) (lk : Option Nat) (ds : List D) (it : Value) (s : Shared) : Prop
 | mk (g : PH) (μ : Mu) (fp wr : List Addr) (gi : Option Nat) (P : Nat → Value → Shared → Shared → List Addr → Prop) (Pst : Nat → List Addr → List Addr → Shared → Prop) (W : Wk w A it gi ds.length P Pst) (st : Pst 0 fp wr s) (O : Off C env g μ σ fp wr gi) (S : St h₀ C env g μ ρ σ τ s)
  (hr : ∀ i v s s' wr', i < ds.length → P i v s s' wr' → ∃ d, ds[i]? = some d ∧ (Rd μ g v d ∨ NewTup v d s s' wr')) (hlk : ∀ i, lk = some i → ∃ a m, μ[i]? = some (a, m) ∧ C.Φ m = none) : PI w A h₀ C env ρ σ τ lk ds it s
section
variable {h₀ : Heap} {C : Cx} {env : Env} {g g' : PH} {μ μ' : Mu} {ρ ρ' : aj} {σ σ' σ₁ σ₂ : aa} {τ τ' : List (Value × D)} {s s' : Shared} {w : World} {A : Around} {n k kk : Nat} {f : Fn} {p : Pos} {o : aO}
 {it v : Value} {d : D} {ds : List D} {fp wr : List Addr} {gi lk : Option Nat} {P : Nat → Value → Shared → Shared → List Addr → Prop} {Pst : Nat → List Addr → List Addr → Shared → Prop} {P₀ : Nat → Value → Prop}
theorem PI.mk' {fx : List Addr} {ob : Obj} (S : St h₀ C env g μ ρ σ τ s) (hfx : ∀ b ∈ fx, b ≠ env.locals ∧ ∀ (i : Nat) (so : SO) (x m : Addr), σ[i]? = some so → Live so → μ[i]? = some (x, m) → m ≠ b)
  (hcl : ob.isFreed = false) (W : Wk w A (.ref s.heap.objs.size) none ds.length (fun i v _ _ _ => P₀ i v) Pst) (h0 : Pst 0 (s.heap.objs.size :: fx) [s.heap.objs.size] { s with heap := s.heap.push ob })
  (hr : ∀ i v, i < ds.length → P₀ i v → ∃ d, ds[i]? = some d ∧ Rd μ g v d) (hlk : ∀ i, lk = some i → ∃ a m, μ[i]? = some (a, m) ∧ C.Φ m = none) : PI w A h₀ C env ρ σ τ lk ds (.ref s.heap.objs.size) { s with heap := s.heap.push ob } := by
 refine ⟨g, μ, _, _, _, _, Pst, W, h0, ?_, S.more (fun b o e => Heap.get?_push_of_some _ e) s.toks, fun i v _ _ _ hi hP => let ⟨d, h1, h2⟩ := hr i v hi hP; ⟨d, h1, .inl h2⟩, hlk⟩
 obtain ⟨f1, f2, f3, f4⟩ := S.fresh (bg s.heap)
 refine ⟨?_, ?_, ?_, ?_, ?_, ?_⟩
 ·intro b hb
  rcases List.mem_cons.mp hb with rfl | hb
  ·exact f3
  ·exact (hfx b hb).1
 ·intro b hb i so x m hi hl hm
  rcases List.mem_cons.mp hb with rfl | hb
  ·exact f4 i so x m hi hl.occ hm
  ·exact (hfx b hb).2 i so x m hi hl hm
 ·intro b hb i so x m hi hl hm
  rcases List.mem_cons.mp hb with rfl | hb
  ·exact f4 i so x m hi hl hm
  ·cases hb
 ·intro b hb
  rcases List.mem_cons.mp hb with rfl | hb
  ·exact f1
  ·cases hb
 ·intro b hb
  rcases List.mem_cons.mp hb with rfl | hb
  ·exact f2
  ·cases hb
 ·intro j hj; cases hj
theorem n9 (hA : A.handled = none) {I ax : Addr} (hne : ax ≠ I) (items : Array Value) : Wk w A (.ref I) none items.size (fun i v _ _ _ => items[i]? = some v) (fun i fp wr s => fp = [I, ax] ∧ wr = [I] ∧ s.heap.IsListIter I ax i ∧ s.heap.IsList ax items) :=
 .of (St := fun i h => h.IsListIter I ax i ∧ h.IsList ax items) hA (fun A' hA => Walks.list hA I ax hne items) (fun i h st b hb => by
  obtain ⟨⟨o1, a1, a2, a3⟩, o2, b1, b2, n, b3⟩ := st
  clear hne; rcases List.mem_cons.mp hb with rfl | hb
  ·exact ⟨o1, a1, fun v e => by rw [a3] at e; cases e⟩
  ·clear a3; rcases List.mem_cons.mp hb with rfl | hb
   ·exact ⟨o2, b1, fun v e => by rw [b3] at e; cases e⟩
   ·cases hb) fun i h st => by
  obtain ⟨⟨o1, a1, a2, a3⟩, _⟩ := st
  exact ⟨o1, _, a1, a2, by decide⟩
theorem qZ (hA : A.handled = none) {I ax : Addr} (hne : ax ≠ I) (items : Array Value) : Wk w A (.ref I) none items.size (fun i v _ _ _ => items[i]? = some v) (fun i fp wr s => fp = [I, ax] ∧ wr = [I] ∧ s.heap.IsTupleIter I ax i ∧ s.heap.IsTuple ax items) :=
 .of (St := fun i h => h.IsTupleIter I ax i ∧ h.IsTuple ax items) hA (fun A' hA => Walks.tuple hA I ax hne items) (fun i h st b hb => by
  obtain ⟨⟨o1, a1, a2, a3⟩, o2, b1, b2, n, b3⟩ := st
  clear hne; rcases List.mem_cons.mp hb with rfl | hb
  ·exact ⟨o1, a1, fun v e => by rw [a3] at e; cases e⟩
  ·clear a3; rcases List.mem_cons.mp hb with rfl | hb
   ·exact ⟨o2, b1, fun v e => by rw [b3] at e; cases e⟩
   ·cases hb) fun i h st => by
  obtain ⟨⟨o1, a1, a2, a3⟩, _⟩ := st
  exact ⟨o1, _, a1, a2, by decide⟩
theorem xa (hA : A.handled = none) {I : Addr} (x : Str) (t : Tok) : Wk w A (.ref I) none x.cps.size (fun i v _ _ _ => SignAt x i v) (fun i fp wr s => fp = [I] ∧ wr = [I] ∧ s.heap.IsStrIter I "str_ascii_iterator" x t i) :=
 .of (St := fun i h => h.IsStrIter I "str_ascii_iterator" x t i) hA (fun A' hA => Walks.strAscii hA I x t) (fun i h st b hb => by
  obtain ⟨o1, a1, a2, a3⟩ := st
  rcases List.mem_cons.mp hb with rfl | hb
  ·exact ⟨o1, a1, fun v e => by rw [a3] at e; cases e⟩
  ·cases hb) fun i h st => by
  obtain ⟨o1, a1, a2, a3⟩ := st
  exact ⟨o1, _, a1, a2, by decide⟩
theorem q0 (hA : A.handled = none) {I : Addr} (a c : Int) (n : Nat) : Wk w A (.ref I) none n (fun i v _ _ _ => ∃ t, v = .int (a + i * c) t) (fun i fp wr s => fp = [I] ∧ wr = [I] ∧ IsRangeIter s.heap I (a + (i : Nat) * c) ((n : Int) - (i : Nat)) c) :=
 .of (St := fun i h => IsRangeIter h I (a + (i : Nat) * c) ((n : Int) - (i : Nat)) c) hA (fun A' hA => Walks.range hA I a c n) (fun i h st b hb => by
  rcases List.mem_cons.mp hb with rfl | hb
  ·exact ⟨_, st, fun v e => by cases e⟩
  ·cases hb) fun i h st => ⟨_, _, st, rfl, by decide⟩
theorem St.offImm (S : St h₀ C env g μ ρ σ τ s) {b : Addr} {ob : Obj} (h2 : g b = some ob) : b ≠ env.locals ∧ ∀ (i : Nat) (so : SO) (x m : Addr), σ[i]? = some so → Live so → μ[i]? = some (x, m) → m ≠ b := by
 refine ⟨fun e => (by rw [e, S.owng] at h2; cases h2), fun i so x m hi hlv hm e => ?_⟩
 subst e
 have k := S.stoAt hi hm
 cases so with
 | dead => cases hlv
 | lock l => cases hlv
 | lst l => rw [k.e3] at h2; cases h2
 | inst c fs => rw [k.e3] at h2; cases h2
theorem RdAll.at {vs : Array Value} {l : List D} (h3 : RdAll μ g vs.toList l) : ∀ i v, i < l.length → vs[i]? = some v → ∃ d, l[i]? = some d ∧ Rd μ g v d := by
 intro i v hi hP
 obtain ⟨v', e1, e2⟩ := h3.get (List.getElem?_eq_getElem hi)
 rw [Array.getElem?_toList, hP] at e1
 cases e1
 exact ⟨_, List.getElem?_eq_getElem hi, e2⟩
theorem ve (hA : A.handled = none) (S : St h₀ C env g μ ρ σ τ s) (hv : Rd μ g v d) (h : pb σ d = some (lk, ds, σ')) : wpAny (model PW w) A (pyIter v) (PI w A h₀ C env ρ σ' τ lk ds) be s := by
 revert h; refine oE (fun h1 => ?_) fun h1 => ?_
 ·revert h1; refine bE fun i hi => ?_
  refine mE fun l hl h3 => ?_
  cases h3
  obtain rfl := cB hi
  have hi := bY hl
  obtain ⟨a, m, h1, rfl⟩ := hv
  have k := S.stoAt hi h1
  obtain ⟨b1, b2, b3, b4, vs, c, b5, b6⟩ := k
  subst b1
  have hl : s.heap.IsList m vs := ⟨_, b5, rfl, c, rfl⟩
  have S₁ := S.flip hi trivial h1 (so' := .lock ds) ⟨rfl, b3, b4, vs, c, b5, b6, .inl b2⟩
  refine wpAny_pyIter_list hl ?_
  have hlen : vs.size = ds.length := by rw [← b6.length, Array.length_toList]
  refine PI.mk' (fx := [m]) (P₀ := fun i v => vs[i]? = some v) S₁ (fun b hb => (by obtain rfl := List.mem_singleton.mp hb; exact ⟨b4, fun j so x m' hj hlv hm e => by
   rcases cZ hj with ⟨_, _, rfl⟩ | ⟨hne, hj⟩
   ·cases hlv
   ·exact hne (S.dist i j _ so b b x m' hi trivial hj hlv.occ h1 hm e.symm)⟩)) rfl (hlen ▸ n9 hA (Nat.ne_of_lt (Heap.lt_size b5)) vs) ⟨rfl, rfl, ⟨_, Heap.get?_push_size _ rfl, rfl, rfl⟩, hl.push _⟩ b6.at (fun j e => by cases e; exact ⟨m, m, h1, b2⟩)
 ·revert h1; refine mE fun l hl h2 => ?_
  cases h2
  revert hl; refine oE (fun h1 => ?_) fun h1 => ?_
  ·obtain rfl := ek h1
   obtain ⟨a, vs, c, rfl, h2, h3⟩ := hv
   have hl : s.heap.IsList a vs := ⟨_, S.imm _ _ h2, rfl, c, rfl⟩
   have hlen : vs.size = ds.length := by rw [← h3.length, Array.length_toList]
   exact wpAny_pyIter_list hl (PI.mk' (fx := [a]) (P₀ := fun i v => vs[i]? = some v) S (fun b hb => (by obtain rfl := List.mem_singleton.mp hb; exact S.offImm h2)) rfl (hlen ▸ n9 hA (Nat.ne_of_lt (Heap.lt_size (S.imm _ _ h2))) vs) ⟨rfl, rfl, ⟨_, Heap.get?_push_size _ rfl, rfl, rfl⟩, hl.push _⟩ h3.at (fun i e => by cases e))
  revert h1; refine oE (fun h1 => ?_) fun h1 => ?_
  ·obtain rfl := dM h1
   obtain ⟨a, vs, c, rfl, h2, h3⟩ := hv
   have hl : s.heap.IsTuple a vs := ⟨_, S.imm _ _ h2, rfl, c, rfl⟩
   have hlen : vs.size = ds.length := by rw [← h3.length, Array.length_toList]
   exact wpAny_pyIter_tuple hl (PI.mk' (fx := [a]) (P₀ := fun i v => vs[i]? = some v) S (fun b hb => (by obtain rfl := List.mem_singleton.mp hb; exact S.offImm h2)) rfl (hlen ▸ qZ hA (Nat.ne_of_lt (Heap.lt_size (S.imm _ _ h2))) vs) ⟨rfl, rfl, ⟨_, Heap.get?_push_size _ rfl, rfl, rfl⟩, hl.push _⟩ h3.at (fun i e => by cases e))
  ·obtain ⟨x, hx, rfl⟩ := Option.map_eq_some_iff.mp h1
   clear h1; obtain rfl := aT hx
   obtain ⟨hx, t, rfl⟩ := hv
   refine wpAny_pyIter_ascii (by simpa [ar] using hx) ?_
   refine PI.mk' (fx := []) (P₀ := SignAt ⟨x.toArray⟩) (Pst := fun i fp wr s' => fp = [s.heap.objs.size] ∧ wr = [s.heap.objs.size] ∧ s'.heap.IsStrIter s.heap.objs.size "str_ascii_iterator" ⟨x.toArray⟩ t i) S (fun b hb => by cases hb) rfl (by simpa using xa hA (I := s.heap.objs.size) ⟨x.toArray⟩ t) ⟨rfl, rfl, _, Heap.get?_push_size _ rfl, rfl, rfl⟩ ?_ (fun i e => by cases e)
   intro i v hi hP
   obtain ⟨c, u, h1, rfl⟩ := hP
   have h1' : x[i]? = some c := by simpa using h1
   refine ⟨.str [c], by simp [h1'], ?_⟩
   refine ⟨?_, u, rfl⟩
   have := List.all_eq_true.mp hx c (List.mem_of_getElem? h1')
   simpa [ar] using this
theorem iW {a b : Int} (h : bM a b = true) : Builtin.Range.small a b 1 = true := by
 obtain ⟨h1, h2, h3, h4, _⟩ := of_decide_eq_true h
 exact small_one (Int.le_trans (by decide) h1) (Int.lt_of_le_of_lt h2 (by decide)) (Int.le_trans (by decide) h3) (Int.lt_of_le_of_lt h4 (by decide))
theorem rN (hA : A.handled = none) (S : St h₀ C env g μ ρ σ τ s) {a b : Int} (hok : bM a b = true) {r : Addr} {t u v : Tok} (hr : IsRange s.heap r a b 1 t u v) : wpAny (model PW w) A (pyIter (.ref r)) (PI w A h₀ C env ρ σ τ none (bx a b)) be s := by
 refine wpAny_pyIter_range hr (iW hok) ?_
 have hlen : (bx a b).length = (b - a).toNat := by simp [bx]
 refine PI.mk' (fx := []) (P₀ := fun i v => ∃ t, v = .int (a + i * 1) t) S (fun b hb => by cases hb) rfl (by rw [hlen]; exact q0 hA a 1 _) ?_ ?_ (fun i e => by cases e)
 ·refine ⟨rfl, rfl, ?_⟩
  show Heap.get? _ _ = _
  rw [Heap.get?_push_size _ rfl, rangeSize_nat]
  simp
 ·rintro i v hi ⟨t, rfl⟩
  rw [hlen] at hi
  refine ⟨.int (a + (i : Nat)), by simp [bx, hi], ?_⟩
  exact ⟨t, by rw [Int.mul_one]⟩
theorem PX.leaveAt (S : St h₀ C env g μ ρ σ τ s) {fl : Fl} {fw : Flow} {σ'' : aa} (h : PX h₀ (C.at g μ σ) env τ ρ' σ' fl fw s') (hu : bL σ' lk = some σ'') (hlk : ∀ i, lk = some i → ∃ a m, μ[i]? = some (a, m) ∧ C.Φ m = none) : PX h₀ C env τ ρ' σ'' fl fw s' := by
 cases fl with
 | next => obtain ⟨e, g', μ', S'⟩ := h; exact ⟨e, g', μ', S.unlock S' hu hlk⟩
 | brk => obtain ⟨e, g', μ', S'⟩ := h; exact ⟨e, g', μ', S.unlock S' hu hlk⟩
 | ret d => obtain ⟨v, e, g', μ', S'⟩ := h; exact ⟨v, e, g', μ', S.unlock S' hu hlk⟩
theorem l6 (W : Wk w A it gi n P Pst) {target : Expr} {i : Nat} {Q : Unit → Shared → Prop} {E : Value → Shared → Prop} (hb : ct f target d ρ = some ρ') (st : Pst i fp wr s) (hQ : Q () s) :
  wpAny (model PW w) A (letOwnedTupleGo target it v) Q E s := by
 have hT := kr target
 unfold ct at hb
 generalize qO target = t at hb hT
 cases hT <;> first | exact aW hb | skip
 ·exact wpAny_pure hQ
 ·exact W.go i _ _ s _ _ _ v Q E st hQ
inductive GX (h₀ : Heap) (C : Cx) (env : Env) (f : Fn) (ex : mQ) (target : Expr) (body : List Stmt) (ds : List D) (fl : Fl) (ρ' : aj) (σ' : aa) (τ : List (Value × D)) (gi : Option Nat) (Pst : Nat → List Addr → List Addr → Shared → Prop) (m : Nat) (s' : Shared) : Prop
 | mk (i : Nat) (g' : PH) (μ' : Mu) (ρ₁ : aj) (σ₁ : aa) (fp wr : List Addr) (a1 : m = ds.length - i) (a2 : i ≤ ds.length) (a3 : (cV f ex target body (ds.drop i) ρ₁ σ₁).run = some (fl, ρ', σ')) (a4 : St h₀ C env g' μ' ρ₁ σ₁ τ s') (a5 : Pst i fp wr s') (a6 : Off C env g' μ' σ₁ fp wr gi) : GX h₀ C env f ex target body ds fl ρ' σ' τ gi Pst m s'
theorem zl {ex : mQ} (X : Ev w h₀ k f ex) (V : SEnv f env) (hown : f.own = true) (R : Room k A) {target : Expr} {body : List Stmt} {fl : Fl} {σ'' : aa} (h : (cV f ex target body ds ρ σ).run = some (fl, ρ', σ')) (hu : bL σ' lk = some σ'')
  (I : PI w A h₀ C env ρ σ τ lk ds it s) {Rr : Result → Shared → Prop} (hR : ∀ fw s', PX h₀ C env τ ρ' σ'' fl fw s' → Rr (.ok fw) s') : codeAny (model PW w) A (.forLoop target it body [] env) Rr s := by
 obtain ⟨g, μ, fp, wr, gi, P, Pst, W, h0, O, S, hr, hlk⟩ := I
 refine codeAny_forLoop_any (GX h₀ (C.at g μ σ) env f ex target body ds fl ρ' σ' τ gi Pst)
  ?_ ds.length ⟨0, g, μ, ρ, σ, fp, wr, by simp, Nat.zero_le _, h, S.at, h0, O.at⟩
 rintro m s₁ ⟨i, g₁, μ₁, ρ₁, σ₁, fp, wr, rfl, hi, hf, S₁, st, O₁⟩
 rcases Nat.lt_or_ge i ds.length with hlt | hge
 ·refine W.item i fp wr s₁ _ _ S₁.bare hlt st fun v s₂ fp' wr' hP st₂ X₂ hfp hwr => ?_
  have S₂' := S₁.step O₁ (W.sub _ _ _ _ st) (W.shape i _ _ s₁ st) X₂
  obtain ⟨d, hd, hrd⟩ := hr i v _ _ _ hlt hP
  obtain ⟨g₂, S₂, hrd, O₂, _⟩ := S₁.got S₂' (O₁.grow S₁ hfp hwr) (hrd.imp (fun h => h.mono (fun a o e => S₁.ext a o e) S₁.pre) fun h => h)
  have hdrop : ds.drop i = d :: ds.drop (i + 1) := by
   rw [List.drop_eq_getElem_cons hlt]
   have : ds[i] = d := by rw [List.getElem?_eq_getElem hlt] at hd; exact Option.some.inj hd
   rw [this]
  rw [hdrop] at hf
  revert hf; refine lE fun ρ₂ hb => ?_
  refine tT fun f1 ρ₃ σ₃ he hf => ?_
  refine l6 W hb st₂ ?_
  have S₃ := S₂.add O₂ (W.shape _ _ _ s₂ st₂)
  refine wpAny_mono (gF R V target d hb hrd S₃) (fun _ s₄ S₄ => ?_) fun _ _ x => x.elim
  refine wpAny_mono (ee X V hown R body he S₄) (fun fw s₅ h₅ => ?_) fun _ _ x => x.elim
  cases f1 with
  | next =>
   obtain ⟨rfl, g₅, μ₅, S₅⟩ := h₅
   refine ⟨_, ?_, i + 1, g₅, μ₅, ρ₃.take ρ₁.length, σ₃, fp', wr', rfl, hlt, hf, (S₂.leaveAdd S₅).cut _, ?_, O₂.turn (W.sub _ _ _ _ st₂) (W.shape _ _ _ s₂ st₂) S₅⟩
   ·omega
   ·refine W.frame _ _ _ s₂ s₅ st₂ (fun b hb o e => S₅.phi b o ?_) fun j x e => S₅.gens j x e
    simp only [Cx.add]
    rw [if_pos hb]
    exact e
  | brk =>
   obtain ⟨rfl, g₅, μ₅, S₅⟩ := h₅
   have hp : PX h₀ (C.at g μ σ) env τ ρ' σ' fl .next s₅ := r3 hf ⟨rfl, g₅, μ₅, (S₂.leaveAdd S₅).cut _⟩
   exact hR _ _ (PX.leaveAt S hp hu hlk)
  | ret dd =>
   obtain ⟨vv, rfl, g₅, μ₅, S₅⟩ := h₅
   have hp : PX h₀ (C.at g μ σ) env τ ρ' σ' fl (.ret vv) s₅ := r3 hf ⟨vv, rfl, g₅, μ₅, S₂.leaveAdd S₅⟩
   exact hR _ _ (PX.leaveAt S hp hu hlk)
 ·have hie : i = ds.length := Nat.le_antisymm hi hge
  clear hi hge; subst hie
  refine W.done fp wr s₁ _ _ S₁.bare st fun s₂ X₂ => ?_
  have S₂ := S₁.step O₁ (W.sub _ _ _ _ st) (W.shape _ _ _ s₁ st) X₂
  rw [List.drop_length] at hf
  have hp : PX h₀ (C.at g μ σ) env τ ρ' σ' fl .next s₂ := r3 hf ⟨rfl, g₁, μ₁, S₂⟩
  exact wpAny_execs_nil (hR _ _ (PX.leaveAt S hp hu hlk))
end
end
section
set_option maxRecDepth 4000
noncomputable def liveAt (μ : Mu) (σ : aa) (b : Addr) : Prop := ∃ (i : Nat) (so : SO) (a : Addr), σ[i]? = some so ∧ Live so ∧ μ[i]? = some (a, b)
open Classical in
noncomputable def Cx.all (C : Cx) (g : PH) (μ : Mu) (σ : aa) (s : Shared) (ow : List Addr) : Cx := ⟨fun b => if b ∈ ow ∨ liveAt μ σ b then none else s.heap.get? b, g, μ, C.os, C.gn, lkOf μ σ⟩
section
variable {h₀ : Heap} {C : Cx} {env env' : Env} {g g' : PH} {μ μ' : Mu} {ρ ρ' ρ'' : aj} {σ σ' σ₁ σ₂ : aa} {τ τ' : List (Value × D)} {s s' s'' : Shared} {w : World} {A : Around} {n k kk : Nat} {f : Fn} {p : Pos} {o : aO}
 {it v : Value} {d : D} {ds : List D} {fp wr ow : List Addr} {gi lk : Option Nat} {P : Nat → Value → Prop} {Pst : Nat → Shared → Prop}
theorem Cx.all_some {b : Addr} {o : Obj} (h1 : b ∉ ow) (h2 : ¬liveAt μ σ b) (h3 : s.heap.get? b = some o) : (Cx.all C g μ σ s ow).Φ b = some o := by
 simp only [Cx.all]
 rw [if_neg (by intro h; rcases h with h | h; exact h1 h; exact h2 h)]
 exact h3
theorem Cx.all_none {b : Addr} (h : b ∈ ow ∨ liveAt μ σ b) : (Cx.all C g μ σ s ow).Φ b = none := by
 simp only [Cx.all]
 rw [if_pos h]
theorem St.not_live (S : St h₀ C env g μ ρ σ τ s) {b : Addr} {o : Obj} (h : C.Φ b = some o) : ¬liveAt μ σ b := by
 rintro ⟨i, so, a, h1, h2, h3⟩
 have k := S.stoAt h1 h3
 cases so with
 | dead => cases h2
 | lock l => cases h2
 | lst l => rw [k.e2] at h; cases h
 | inst c fs => rw [k.e2] at h; cases h
theorem St.not_live_loc (S : St h₀ C env g μ ρ σ τ s) : ¬liveAt μ σ env.locals := by
 rintro ⟨i, so, a, h1, h2, h3⟩
 have k := S.stoAt h1 h3
 cases so with
 | dead => cases h2
 | lock l => cases h2
 | lst l => exact k.e4 rfl
 | inst c fs => exact k.e4 rfl
theorem St.not_live_cell (S : St h₀ C env g μ ρ σ τ s) {c : Addr} {v : Option Value} (h : s.heap.IsCell c v) : ¬liveAt μ σ c := by
 rintro ⟨i, so, a, h1, h2, h3⟩
 have k := S.stoAt h1 h3
 cases so with
 | dead => cases h2
 | lock l => cases h2
 | lst l => obtain ⟨b1, b2, b3, b4, vs, n, b5, b6⟩ := k; subst b1; exact gD h b5
 | inst c fs => obtain ⟨b1, b2, b3, b4, mm, b5, b6⟩ := k; exact dh h b5.ns
theorem liveAt.drop {b : Addr} (h : liveAt (μ.drop n) (σ.drop n) b) : liveAt μ σ b := by
 obtain ⟨i, so, a, h1, h2, h3⟩ := h
 exact ⟨n + i, so, a, List.getElem?_drop ▸ h1, h2, List.getElem?_drop ▸ h3⟩
structure Ow (C : Cx) (env : Env) (g : PH) (s : Shared) (ow : List Addr) : Prop where
 Φ : ∀ b ∈ ow, C.Φ b = none
 g : ∀ b ∈ ow, g b = none
 loc : env.locals ∉ ow
 cell : ∀ c v, s.heap.IsCell c v → c ∉ ow
theorem St.enter (n : Nat) {τ₂ : List (Value × D)} (hn : (n = 0 ∧ τ₂ = τ) ∨ ((∀ so ∈ σ.drop n, ∃ c, so = .inst c []) ∧ τ₂ = [])) (S : St h₀ C env g μ ρ σ τ s) (O : Ow C env g s ow) (hk : ∀ b o, s.heap.get? b = some o → s'.heap.get? b = some o) (hos : s'.os = s.os) (hb : AllBare s'.gens) (hgn : ∀ (j : Nat) (x : GenState), s.gens[j]? = some x → s'.gens[j]? = some x) (hL : s.heap.get? env'.locals = none) (hLo : env'.locals ∈ ow)
  (hloc : ∃ m, s'.heap.Ns env'.locals m ∧ ∀ x d, ρ'.lookup x = some d → env'.kindOf x = some .local → ∃ v, m x = some v ∧ Rd (μ.drop n) g v d)
  (hcel : ∀ x d, ρ'.lookup x = some d → env'.kindOf x = some .cell ∨ env'.kindOf x = some .free → ∃ c v, env'.cells.lookup x = some c ∧ s'.heap.IsCell c (some v) ∧ Rd (μ.drop n) g v d)
  (hcelW : ∀ x, env'.func.isSome = true → env'.kindOf x = some .cell → ∃ c v, env'.cells.lookup x = some c ∧ s'.heap.IsCell c v ∧ c ∈ ow)
  (hcelD : ∀ x y c, env'.cells.lookup x = some c → env'.cells.lookup y = some c → x = y) : St h₀ (Cx.all C g (μ.drop n) (σ.drop n) s' ow) env' g (μ.drop n) ρ' (σ.drop n) τ₂ s' where
 base := fun a o h => Cx.all_some (fun ha => by have := S.base _ _ h; rw [O.Φ _ ha] at this; cases this) (fun h' => S.not_live (S.base _ _ h) h'.drop) (hk _ _ (S.phi _ _ (S.base _ _ h)))
 phi := fun a o h => by
  simp only [Cx.all] at h
  split at h
  ·exact aW h
  ·exact h
 imm := fun a o h => hk _ _ (S.imm a o h)
 grow := fun a o h => .inl h
 ext := fun a o h => h
 pre := List.prefix_refl _
 len := by rw [List.length_drop, List.length_drop, S.len]
 dist := fun i j so so' a m a' m' h1 l1 h2 l2 e1 e2 em => by
  rw [List.getElem?_drop] at h1 h2 e1 e2
  exact Nat.add_left_cancel (S.dist _ _ so so' a m a' m' h1 l1 h2 l2 e1 e2 em)
 sto := fun i so hi => by
  have hi' := hi
  rw [List.getElem?_drop] at hi
  obtain ⟨a, m, e1, k⟩ := S.sto _ so hi
  have e2 : (μ.drop n)[i]? = some (a, m) := by rw [List.getElem?_drop]; exact e1
  have hlv : Live so → (Cx.all C g (μ.drop n) (σ.drop n) s' ow).Φ m = none := fun hl => Cx.all_none (.inr ⟨i, so, a, hi', hl, e2⟩)
  refine ⟨a, m, e2, ?_⟩
  have hne : ∀ {x : Addr} {o : Obj}, s.heap.get? x = some o → x ≠ env'.locals := by
   rintro x o h rfl; rw [hL] at h; cases h
  clear hloc hcel hi e1; rcases hn with ⟨rfl, _⟩ | ⟨hn, _⟩
  ·cases so with
   | dead => trivial
   | lock l =>
    obtain ⟨b1, b3, b4, vs, n, b5, b6, _⟩ := k
    exact ⟨b1, b3, b1 ▸ hne b5, vs, n, hk _ _ b5, b6, .inr ⟨i, l, a, hi', e2⟩⟩
   | lst l =>
    obtain ⟨b1, b2, b3, b4, vs, n, b5, b6⟩ := k
    exact ⟨b1, hlv trivial, b3, b1 ▸ hne b5, vs, n, hk _ _ b5, b6⟩
   | inst c fs =>
    obtain ⟨b2, b3, b4, b1, mm, ⟨oo, es, ep, b5, b6⟩, b7⟩ := k
    exact ⟨hlv trivial, b3, hne b5, b1, mm, ⟨oo, es, ep, hk _ _ b5, b6⟩, b7⟩
  ·obtain ⟨c, rfl⟩ := hn _ (List.mem_of_getElem? hi')
   obtain ⟨b2, b3, b4, b1, mm, ⟨oo, es, ep, b5, b6⟩, b7, _⟩ := k
   exact ⟨hlv trivial, b3, hne b5, b1, mm, ⟨oo, es, ep, hk _ _ b5, b6⟩, b7, trivial⟩
 ownΦ := Cx.all_none (.inl hLo)
 owng := O.g _ hLo
 loc := hloc
 cel := hcel
 celW := fun x hf hx => let ⟨c, v, a1, a2, a3⟩ := hcelW x hf hx; ⟨c, v, a1, a2, Cx.all_none (.inl a3), O.g _ a3⟩
 celD := hcelD
 tmp := fun p hp => by
  clear hloc hcel; rcases hn with ⟨rfl, rfl⟩ | ⟨_, rfl⟩
  ·exact S.tmp p hp
  ·cases hp
 bare := hb
 gens := fun i x h => hgn i x (S.gens i x h)
 os := hos.trans S.os
mutual
noncomputable def iv : D → Bool
 | .ptr _ => false
 | .tup l => dO l
 | .lst l => dO l
 | .obj _ fs => qQ fs
 | _ => true
noncomputable def dO : List D → Bool
 | [] => true
 | d :: r => iv d && dO r
noncomputable def qQ : List (Str × D) → Bool
 | [] => true
 | (_, d) :: r => iv d && qQ r
end
mutual
theorem Rd.pf {v : Value} : ∀ {d : D}, iv d = true → Rd μ g v d → Rd μ' g v d
 | .none, _, h => h
 | .bool b, _, h => h
 | .int i, _, h => h
 | .str s, _, h => h
 | .typ n, _, h => h
 | .tup l, p, h => by
  obtain ⟨a, vs, n, h1, h2, h3⟩ := h
  exact ⟨a, vs, n, h1, h2, RdAll.pf p h3⟩
 | .lst l, p, h => by
  obtain ⟨a, vs, n, h1, h2, h3⟩ := h
  exact ⟨a, vs, n, h1, h2, RdAll.pf p h3⟩
 | .obj c fs, p, h => by
  obtain ⟨a, d, m, h1, h2, h3, h4, h5⟩ := h
  exact ⟨a, d, m, h1, h2, h3, h4, RdFs.pf p h5⟩
 | .ptr i, p, _ => by cases p
 | .base a, _, h => h
theorem RdAll.pf : ∀ {ds : List D} {vs : List Value}, dO ds = true → RdAll μ g vs ds → RdAll μ' g vs ds
 | [], [], _, _ => trivial
 | _ :: _, _ :: _, p, h => by
  have p := Bool.and_eq_true_iff.mp p
  exact ⟨Rd.pf p.1 h.1, RdAll.pf p.2 h.2⟩
 | _ :: _, [], _, h => by cases h
 | [], _ :: _, _, h => by cases h
theorem RdFs.pf {m : Str → Option Value} : ∀ {fs : List (Str × D)}, qQ fs = true → RdFs μ g m fs → RdFs μ' g m fs
 | [], _, _ => trivial
 | (x, d) :: r, p, h => by
  have p := Bool.and_eq_true_iff.mp p
  exact let ⟨⟨v, h1, h2⟩, h3⟩ := h; ⟨⟨v, h1, Rd.pf p.1 h2⟩, RdFs.pf p.2 h3⟩
end
theorem St.exit (S : St h₀ C env g μ ρ σ τ s) (O : Ow C env g s ow) (hk : ∀ b o, s.heap.get? b = some o → s'.heap.get? b = some o) (hLo : env'.locals ∈ ow)
  (S' : St h₀ (Cx.all C g μ σ s' ow) env' g' μ' ρ' σ' τ' s'') : St h₀ C env g' μ' ρ σ' τ s'' := by
 have hΦ : ∀ b o, C.Φ b = some o → (Cx.all C g μ σ s' ow).Φ b = some o := fun b o h => Cx.all_some (fun ha => by rw [O.Φ _ ha] at h; cases h) (S.not_live h) (hk _ _ (S.phi _ _ h))
 have off : ∀ m, (Cx.all C g μ σ s' ow).Φ m = none → C.Φ m = none := fun m h => by
  cases e : C.Φ m with
  | none => rfl
  | some o => rw [hΦ _ _ e] at h; cases h
 obtain ⟨mL, hmL, hmL2⟩ := S.loc
 obtain ⟨oL, esL, epL, hL1, hL2⟩ := id hmL
 have hL : (Cx.all C g μ σ s' ow).Φ env.locals = some oL := Cx.all_some O.loc S.not_live_loc (hk _ _ hL1)
 have hcell : ∀ c v, s.heap.IsCell c v → (∃ oc, (Cx.all C g μ σ s' ow).Φ c = some oc) ∧ s''.heap.IsCell c v := fun c v hc => by
  have h1 := S.not_live_cell hc
  have h2 := O.cell _ _ hc
  obtain ⟨oc, e1, e2⟩ := hc
  have h3 := Cx.all_some (C := C) (g := g) h2 h1 (hk _ _ e1)
  exact ⟨⟨oc, h3⟩, oc, S'.phi _ _ h3, e2⟩
 have gne : ∀ c, (∃ oc, (Cx.all C g μ σ s' ow).Φ c = some oc) → g c = none → g' c = none := fun c ⟨oc, hc⟩ hg => by
  cases e : g' c with
  | none => rfl
  | some x =>
   rcases S'.grow _ _ e with h | h
   ·have h' : g c = some x := h
    rw [hg] at h'; cases h'
   ·rw [hc] at h; cases h
 have hgg : ∀ a o, g a = some o → g' a = some o := fun a o h => S'.ext a o h
 have hμμ : μ <+: μ' := S'.pre
 exact {
  base := S.base
  phi := fun b o h => S'.phi _ _ (hΦ _ _ h)
  imm := S'.imm
  grow := fun a o h => by
   rcases S'.grow a o h with h | h
   ·exact S.grow _ _ h
   ·exact .inr (off _ h)
  ext := fun a o h => hgg _ _ (S.ext _ _ h)
  pre := S.pre.trans hμμ
  len := S'.len
  dist := S'.dist
  sto := fun i so hi => by
   obtain ⟨a, m, e1, k⟩ := S'.sto i so hi
   refine ⟨a, m, e1, ?_⟩
   cases so with
   | dead => trivial
   | lock l =>
    obtain ⟨b1, b3, b4, vs, n, b5, b6, b7⟩ := k
    refine ⟨b1, b3, ?_, vs, n, b5, b6, b7.elim (fun h => .inl (off _ h)) fun h => S.lkOf h⟩
    clear e1 b3 b4 b7; rintro rfl
    subst b1
    exact yt ⟨oL, esL, epL, S'.phi _ _ hL, hL2⟩ b5
   | lst l =>
    obtain ⟨b1, b2, b3, b4, vs, n, b5, b6⟩ := k
    exact ⟨b1, off _ b2, b3, (by rintro rfl; rw [hL] at b2; cases b2), vs, n, b5, b6⟩
   | inst c fs =>
    obtain ⟨b2, b3, b4, b1, mm, b5, b6⟩ := k
    exact ⟨off _ b2, b3, (by rintro rfl; rw [hL] at b2; cases b2), b1, mm, b5, b6⟩
  ownΦ := S.ownΦ
  owng := gne _ ⟨_, hL⟩ S.owng
  loc := ⟨mL, ⟨oL, esL, epL, S'.phi _ _ hL, hL2⟩, fun x d hx hkx => let ⟨v, a1, a2⟩ := hmL2 x d hx hkx; ⟨v, a1, a2.mono hgg hμμ⟩⟩
  cel := fun x d hx hkx => let ⟨c, v, a1, a2, a3⟩ := S.cel x d hx hkx; ⟨c, v, a1, (hcell _ _ a2).2, a3.mono hgg hμμ⟩
  celW := fun x hf hkx => let ⟨c, v, a1, a2, a3, a4⟩ := S.celW x hf hkx; ⟨c, v, a1, (hcell _ _ a2).2, a3, gne _ (hcell _ _ a2).1 a4⟩
  celD := S.celD
  tmp := fun p hp => (S.tmp p hp).mono hgg hμμ
  bare := S'.bare
  gens := fun i x h => S'.gens i x h
  os := S'.os }
inductive XI (σ σ' E : aa) (n i : Nat) (so : SO) : Prop
 | mk (j c : Nat) (fs : List (Str × D)) (c' : Nat) (e1 : i = n + j) (h1 : E[j]? = some so) (h2 : σ'[j]? = some so) (e2 : so = .inst c fs) (h4 : qQ fs = true) (h5 : σ[n + j]? = some (.inst c' []))
theorem St.exitI (S : St h₀ C env g μ ρ σ τ s) (O : Ow C env g s ow) (hnew : ∀ b ∈ ow, s.heap.get? b = none) (hk : ∀ b o, s.heap.get? b = some o → s'.heap.get? b = some o) (hLo : env'.locals ∈ ow) {E : aa} (hE : E.length = (σ.drop n).length)
  (hE2 : ∀ (j : Nat) (so : SO), E[j]? = some so → σ'[j]? = some so ∧ ∃ c fs, so = .inst c fs ∧ qQ fs = true ∧ ∃ c', (σ.drop n)[j]? = some (.inst c' []))
  (S' : St h₀ (Cx.all C g (μ.drop n) (σ.drop n) s' ow) env' g' μ' ρ' σ' τ' s'') : St h₀ C env g' μ ρ (σ.take n ++ E) τ s'' := by
 have hΦ : ∀ b o, C.Φ b = some o → (Cx.all C g (μ.drop n) (σ.drop n) s' ow).Φ b = some o := fun b o h => Cx.all_some (fun ha => by rw [O.Φ _ ha] at h; cases h) (fun h' => S.not_live h h'.drop) (hk _ _ (S.phi _ _ h))
 have off : ∀ m, (Cx.all C g (μ.drop n) (σ.drop n) s' ow).Φ m = none → C.Φ m = none := fun m h => by
  cases e : C.Φ m with
  | none => rfl
  | some o => rw [hΦ _ _ e] at h; cases h
 obtain ⟨mL, hmL, hmL2⟩ := S.loc
 obtain ⟨oL, esL, epL, hL1, hL2⟩ := id hmL
 have hL : (Cx.all C g (μ.drop n) (σ.drop n) s' ow).Φ env.locals = some oL := Cx.all_some O.loc (fun h' => S.not_live_loc h'.drop) (hk _ _ hL1)
 have hcell : ∀ c v, s.heap.IsCell c v → (∃ oc, (Cx.all C g (μ.drop n) (σ.drop n) s' ow).Φ c = some oc) ∧ s''.heap.IsCell c v := fun c v hc => by
  have h1 := S.not_live_cell hc
  have h2 := O.cell _ _ hc
  obtain ⟨oc, e1, e2⟩ := hc
  have h3 := Cx.all_some (C := C) (g := g) (μ := μ.drop n) (σ := σ.drop n) h2 (fun h' => h1 h'.drop) (hk _ _ e1)
  exact ⟨⟨oc, h3⟩, oc, S'.phi _ _ h3, e2⟩
 have gne : ∀ c, (∃ oc, (Cx.all C g (μ.drop n) (σ.drop n) s' ow).Φ c = some oc) → g c = none → g' c = none := fun c ⟨oc, hc⟩ hg => by
  cases e : g' c with
  | none => rfl
  | some x =>
   rcases S'.grow _ _ e with h | h
   ·have h' : g c = some x := h
    rw [hg] at h'; cases h'
   ·rw [hc] at h; cases h
 have hgg : ∀ a o, g a = some o → g' a = some o := fun a o h => S'.ext a o h
 have hσ : ∀ (i : Nat) (so : SO), (σ.take n ++ E)[i]? = some so → (i < n ∧ σ[i]? = some so) ∨ XI σ σ' E n i so := fun i so hi => by
  rcases Nat.lt_or_ge i (σ.take n).length with hlt | hge
  ·rw [List.getElem?_append_left hlt] at hi
   rw [List.length_take] at hlt
   rw [List.getElem?_take] at hi
   have hin : i < n := by lia
   rw [if_pos hin] at hi
   exact .inl ⟨hin, hi⟩
  ·rw [List.getElem?_append_right hge] at hi
   obtain ⟨h1, c, fs, h2, h3, c', h4⟩ := hE2 _ _ hi
   have hn : n ≤ σ.length := by
    rcases Nat.lt_or_ge σ.length n with h | h
    ·rw [List.drop_eq_nil_of_le (Nat.le_of_lt h)] at h4; cases h4
    ·exact h
   rw [List.length_take, Nat.min_eq_left hn] at hi hge h1 h4
   rw [List.getElem?_drop] at h4
   exact .inr ⟨i - n, c, fs, c', by lia, hi, h1, h2, h3, h4⟩
 have hold : ∀ (i : Nat) (so : SO), (σ.take n ++ E)[i]? = some so → jw so → ∃ so', σ[i]? = some so' ∧ jw so' := fun i so hi ho => by
  rcases hσ i so hi with ⟨_, h⟩ | ⟨j, c, fs, c', rfl, _, _, _, _, h⟩
  ·exact ⟨so, h, ho⟩
  ·exact ⟨_, h, trivial⟩
 have hkeep : ∀ (b : Addr) (o : Obj), s.heap.get? b = some o → b ∉ ow → ¬liveAt (μ.drop n) (σ.drop n) b → (Cx.all C g (μ.drop n) (σ.drop n) s' ow).Φ b = some o := fun b o e h1 h2 => Cx.all_some h1 h2 (hk _ _ e)
 exact {
  base := S.base
  phi := fun b o h => S'.phi _ _ (hΦ _ _ h)
  imm := S'.imm
  grow := fun a o h => by
   rcases S'.grow a o h with h | h
   ·exact S.grow _ _ h
   ·exact .inr (off _ h)
  ext := fun a o h => hgg _ _ (S.ext _ _ h)
  pre := S.pre
  len := by
   have := S.len
   rw [List.length_append, hE, ← List.length_append, List.take_append_drop]
   exact this
  dist := fun i j so so' a m a' m' h1 l1 h2 l2 e1 e2 em => by
   obtain ⟨x1, y1, z1⟩ := hold i so h1 l1
   obtain ⟨x2, y2, z2⟩ := hold j so' h2 l2
   exact S.dist i j x1 x2 a m a' m' y1 z1 y2 z2 e1 e2 em
  sto := fun i so hi => by
   rcases hσ i so hi with ⟨hin, h⟩ | ⟨j, c, fs, c', rfl, h1, h2, rfl, h4, h5⟩
   ·obtain ⟨a, m, e1, k⟩ := S.sto i so h
    refine ⟨a, m, e1, ?_⟩
    have nl : jw so → ¬liveAt (μ.drop n) (σ.drop n) m := fun ho hl => by
     obtain ⟨j, so', a', x1, x2, x3⟩ := hl
     rw [List.getElem?_drop] at x1 x3
     have := S.dist i (n + j) so so' a m a' m h ho x1 x2.occ e1 x3 rfl
     lia
    cases so with
    | dead => trivial
    | lock l =>
     obtain ⟨b1, b3, b4, vs, n', b5, b6, b7⟩ := k
     clear e1; subst b1
     have hΦm := hkeep _ _ b5 (fun hm => ?_) (nl trivial)
     ·exact ⟨rfl, gne _ ⟨_, hΦm⟩ b3, b4, vs, n', S'.phi _ _ hΦm, b6.mono hgg (List.prefix_refl _), b7⟩
     ·exact absurd b5 (by rw [hnew _ hm]; intro h; cases h)
    | lst l =>
     obtain ⟨b1, b2, b3, b4, vs, n', b5, b6⟩ := k
     clear e1; subst b1
     have hΦm := hkeep _ _ b5 (fun hm => ?_) (nl trivial)
     ·exact ⟨rfl, b2, gne _ ⟨_, hΦm⟩ b3, b4, vs, n', S'.phi _ _ hΦm, b6.mono hgg (List.prefix_refl _)⟩
     ·exact absurd b5 (by rw [hnew _ hm]; intro h; cases h)
    | inst c fs =>
     obtain ⟨b2, b3, b4, b5, mm, ⟨oo, es, ep, n1, n2⟩, b7, b8⟩ := k
     have hΦm := hkeep _ _ n1 (fun hm => ?_) (nl trivial)
     ·exact ⟨b2, gne _ ⟨_, hΦm⟩ b3, b4, b5.mono hgg, mm, ⟨oo, es, ep, S'.phi _ _ hΦm, n2⟩, b7, b8.mono hgg (List.prefix_refl _)⟩
     ·exact absurd n1 (by rw [hnew _ hm]; intro h; cases h)
   ·obtain ⟨a, m, e1, k⟩ := S'.sto j _ h2
    have e2 : μ[n + j]? = some (a, m) := by
     clear k; obtain ⟨t, rfl⟩ := S'.pre
     have e3 : (μ.drop n)[j]? = some (a, m) := by
      obtain ⟨a', m', x1, _⟩ := S.sto _ _ h5
      have x1' : (μ.drop n)[j]? = some (a', m') := by rw [List.getElem?_drop]; exact x1
      have e1' : (μ.drop n ++ t)[j]? = some (a, m) := e1
      rw [List.getElem?_append_left (List.getElem?_eq_some_iff.mp x1').1] at e1'
      exact e1'
     rw [List.getElem?_drop] at e3
     exact e3
    obtain ⟨b2, b3, b4, b5, mm, b6, b7, b8⟩ := k
    exact ⟨a, m, e2, off _ b2, b3, (by rintro rfl; rw [hL] at b2; cases b2), b5, mm, b6, b7, b8.pf h4⟩
  ownΦ := S.ownΦ
  owng := gne _ ⟨_, hL⟩ S.owng
  loc := ⟨mL, ⟨oL, esL, epL, S'.phi _ _ hL, hL2⟩, fun x d hx hkx => let ⟨v, a1, a2⟩ := hmL2 x d hx hkx; ⟨v, a1, a2.mono hgg (List.prefix_refl _)⟩⟩
  cel := fun x d hx hkx => let ⟨c, v, a1, a2, a3⟩ := S.cel x d hx hkx; ⟨c, v, a1, (hcell _ _ a2).2, a3.mono hgg (List.prefix_refl _)⟩
  celW := fun x hf hkx => let ⟨c, v, a1, a2, a3, a4⟩ := S.celW x hf hkx; ⟨c, v, a1, (hcell _ _ a2).2, a3, gne _ (hcell _ _ a2).1 a4⟩
  celD := S.celD
  tmp := fun p hp => (S.tmp p hp).mono hgg (List.prefix_refl _)
  bare := S'.bare
  gens := fun i x h => S'.gens i x h
  os := S'.os }
theorem cM : ∀ {ρ : aj} {x y : Str} {d e : D}, y ≠ x → ρ.lookup y = some e → (cq ρ x d).lookup y = some e
 | [], x, y, d, e, _, h => aW h
 | (z, w) :: r, x, y, d, e, hne, h => by
  unfold cq
  rw [List.lookup_cons] at h
  split
  ·rename_i hz
   rw [List.lookup_cons, show (y == x) = false from by simpa using hne]
   have hz := eq_of_beq hz
   subst hz
   rw [show (y == z) = false from by simpa using hne] at h
   exact h
  ·rw [List.lookup_cons]
   cases hy : y == z with
   | true => rw [hy] at h; exact h
   | false => rw [hy] at h; exact cM hne h
theorem sv {x y : Str} {d e : D} (hx : f.canSet x = false) (hy : f.canSet y = true) (hl : ρ.lookup x = some e) : (cq ρ y d).lookup x = some e := cM (by rintro rfl; rw [hx] at hy; cases hy) hl
theorem gG {x : Str} {e : D} (hx : f.canSet x = false) : ∀ {ts : List Expr} {ds : List D} {ρ ρ' : aj}, ej f ts ds ρ = some ρ' → ρ.lookup x = some e → ρ'.lookup x = some e
 | [], [], ρ, ρ', h, hl => by cases h; exact hl
 | t :: ts, d :: ds, ρ, ρ', h, hl => by
  revert h; refine bE fun ρ₁ h1 h2 => ?_
  revert h1; refine bE fun y _ h3 => ?_
  obtain ⟨_, hc, rfl⟩ := Option.map_eq_some_iff.mp h3
  exact gG hx h2 (sv hx (bp hc) hl)
 | [], _ :: _, _, _, h, _ => aW h
 | _ :: _, [], _, _, h, _ => aW h
theorem mI {x : Str} {e : D} (hx : f.canSet x = false) {t : Expr} {d : D} {ρ ρ' : aj} (h : ct f t d ρ = some ρ') (hl : ρ.lookup x = some e) : ρ'.lookup x = some e := by
 unfold ct at h
 generalize qO t = tg at h
 cases tg <;> first | exact aW h | skip
 ·obtain ⟨_, hc, rfl⟩ := Option.map_eq_some_iff.mp h
  exact sv hx (bp hc) hl
 ·revert h; refine bE fun l _ hb => ?_
  exact gG hx hb hl
theorem nW {scope : Scope} (hk : ∀ p : Str × NameKind, p ∈ scope.names → p.2 = .free → (env.cells.lookup p.1).isSome = true) :
  ∃ cl, closureFor scope env = pure cl ∧ (∀ x c, cl.lookup x = some c → env.cells.lookup x = some c) ∧ ∀ p : Str × NameKind, p ∈ scope.names → p.2 = .free → cl.lookup p.1 = env.cells.lookup p.1 := by
 have go : ∀ (ns : List (Str × NameKind)) (cs : List (Str × Addr)), (∀ p : Str × NameKind, p ∈ ns → p.2 = .free → (env.cells.lookup p.1).isSome = true) → (∀ x c, cs.lookup x = some c → env.cells.lookup x = some c) →
   ∃ cl, (forIn ns cs fun (q : Str × NameKind) (r : List (Str × Addr)) => match q with
    | (name, kind) => if kind == NameKind.free then (do let c ← cellOf env name; pure (ForInStep.yield ((name, c) :: r)) : Sem (ForInStep (List (Str × Addr)))) else pure (ForInStep.yield r)) = pure cl ∧ (∀ x c, cl.lookup x = some c → env.cells.lookup x = some c) ∧
    (∀ (p : Str × NameKind), p ∈ ns → p.2 = .free → cl.lookup p.1 = env.cells.lookup p.1) ∧ ∀ x c, cs.lookup x = some c → cl.lookup x = some c := by
  intro ns
  induction ns with
  | nil => exact fun cs _ h => ⟨cs, rfl, h, fun p hp => (nomatch hp), fun _ _ e => e⟩
  | cons q r ih =>
   obtain ⟨nm, kd⟩ := q
   intro cs hn hc
   by_cases hf : kd = .free
   ·subst hf
    obtain ⟨c, hcell⟩ := Option.isSome_iff_exists.mp (hn (nm, .free) (List.mem_cons_self ..) rfl)
    have hcell : env.cells.lookup nm = some c := hcell
    obtain ⟨cl, e1, e2, e3, e4⟩ := ih ((nm, c) :: cs) (fun p hp => hn p (List.mem_cons_of_mem _ hp)) (fun x c' hx => by
     rw [List.lookup_cons] at hx
     by_cases hxn : x = nm
     ·clear hn; subst hxn
      simp only [beq_self_eq_true, Option.some.injEq] at hx
      rw [hcell, hx]
     ·have : (x == nm) = false := by simpa using hxn
      simp only [this] at hx
      exact hc _ _ hx)
    have hnm : cl.lookup nm = some c := e4 nm c (by simp)
    refine ⟨cl, ?_, e2, ?_, fun x c' hx => ?_⟩
    ·rw [List.forIn_cons]
     simp only [beq_self_eq_true, if_true, cellOf, hcell, pure_bind]
     exact e1
    ·intro p hp hpf
     rcases List.mem_cons.mp hp with rfl | hp
     ·show cl.lookup nm = _; rw [hnm, hcell]
     ·exact e3 p hp hpf
    ·have h1 := hc _ _ hx
     refine e4 x c' ?_
     rw [List.lookup_cons]
     by_cases hxn : x = nm
     ·clear hn e1 e4 hnm; subst hxn
      simp only [beq_self_eq_true]
      rw [hcell] at h1; exact h1
     ·have : (x == nm) = false := by simpa using hxn
      simp only [this]; exact hx
   ·obtain ⟨cl, e1, e2, e3, e4⟩ := ih cs (fun p hp => hn p (List.mem_cons_of_mem _ hp)) hc
    have hb : (kd == NameKind.free) = false := by simpa using hf
    refine ⟨cl, ?_, e2, ?_, e4⟩
    ·rw [List.forIn_cons]
     simp only [hb, Bool.false_eq_true, if_false, pure_bind]
     exact e1
    ·intro p hp hpf
     rcases List.mem_cons.mp hp with rfl | hp
     ·exact absurd hpf hf
     ·exact e3 p hp hpf
 obtain ⟨cl, e1, e2, e3, _⟩ := go scope.names [] hk (fun x c h => by simp at h)
 refine ⟨cl, ?_, e2, e3⟩
 unfold closureFor
 refine Eq.trans ?_ e1
 simp only [bind_pure]
end
end
section
set_option maxRecDepth 4000
section
variable {prog : Program} {w : World} {A : Around} {s : Shared} {R : Result → Shared → Prop}
theorem fb {elt target iter : Expr} {ifs : List Expr} {scope : Scope} {pos : Pos} {it acc : Value} {env : Env} (I : Nat → Shared → Prop)
  (turn : ∀ n s, I n s → wpAny (model prog w) A (pyNext it) (fun r s₁ => match r with
   | none => R (.ok .next) s₁
   | some v => wpAny (model prog w) A (letOwnedTupleGo target it v) (fun _ s₁' => wpAny (model prog w) A (assign target env v) (fun _ s₂ =>
     wpAny (model prog w) A (forIn ifs true fun c r => if r = true then do let ok ← isTrue c env (eval c env); pure (ForInStep.yield ok) else pure (ForInStep.yield r)) (fun ok s₃ =>
      if ok = true then wpAny (model prog w) A (eval elt env) (fun x s₄ =>
       wpAny (model prog w) A (call (.builtin "list.append") [acc, x]) (fun _ s₅ => ∃ m, m < n ∧ I m s₅) (notedBy (model prog w) A env fun e s' => R (.error e) s') s₄) (notedBy (model prog w) A env fun e s' => R (.error e) s') s₃
      else ∃ m, m < n ∧ I m s₃) (notedBy (model prog w) A env fun e s' => R (.error e) s') s₂) (notedBy (model prog w) A env fun e s' => R (.error e) s') s₁') (notedBy (model prog w) A env fun e s' => R (.error e) s') s₁)
   (notedBy (model prog w) A env fun e s' => R (.error e) s') s)
  (n : Nat) (h : I n s) :
  codeAny (model prog w) A (.compLoop (.ListComp elt [⟨target, iter, ifs, 0⟩] scope pos) 0 it acc env) R s := by
 refine codeAny_loop rfl I (fun n s hI => ?_) n h
 show wpAny _ A ((compTurn (.ListComp elt [⟨target, iter, ifs, 0⟩] scope pos) 0 it acc env).onRaise (fun x => do noteFrame x env; theTreesLotGoes x)) _ _ s
 refine wpAny_noted ?_
 rw [compTurn_list]
 refine wpAny_bind (wpAny_standAt (wpAny_bind (wpAny_mono (turn n s hI) (fun r s₁ h₁ => ?_) fun _ _ h' => h')))
 cases r with
 | none => exact wpAny_pure h₁
 | some v =>
  refine wpAny_bind (wpAny_mono h₁ (fun _ s₁' h₁' => ?_) fun _ _ h' => h')
  refine wpAny_bind (wpAny_mono h₁' (fun _ s₂ h₂ => wpAny_bind (wpAny_mono h₂ (fun ok s₃ h₃ => ?_) fun _ _ h' => h')) fun _ _ h' => h')
  cases ok with
  | false => exact wpAny_pure ⟨rfl, h₃⟩
  | true =>
   exact wpAny_bind (wpAny_bind (wpAny_mono h₃ (fun x s₄ h₄ => wpAny_bind (wpAny_mono h₄ (fun _ s₅ h₅ => wpAny_pure (wpAny_pure ⟨rfl, h₅⟩)) fun _ _ h' => h')) fun _ _ h' => h'))
end
section
variable {h₀ : Heap} {C : Cx} {env env' : Env} {g g' : PH} {μ μ' : Mu} {ρ ρ' ρ'' : aj} {σ σ' σ₁ σ₂ : aa} {τ τ' : List (Value × D)} {s s' s'' : Shared} {w : World} {A : Around} {n k kk : Nat} {f : Fn} {p : Pos} {o : aO}
 {it v : Value} {d : D} {ds rs : List D} {fp wr ow : List Addr} {gi lk : Option Nat} {P : Nat → Value → Shared → Shared → List Addr → Prop} {Pst : Nat → List Addr → List Addr → Shared → Prop} {ev : cy} {tr : fN}
theorem Stepd.sub {wr' : List Addr} (X : Stepd wr gi s s') (h : ∀ b ∈ wr, b ∈ wr') : Stepd wr' gi s s' := ⟨fun b o hb e => X.heap b o (fun hb' => hb (h _ hb')) e, X.os, X.bare, X.gens⟩
theorem rk (Ht : ud w h₀ k f tr) (V : SEnv f env) (R : Room k A) {ifs : List Expr} {b : Bool} (h : (om tr ifs ρ σ).run = some (b, σ')) (S : St h₀ C env g μ ρ σ τ s) :
  wpAny (model PW w) A (forIn ifs true fun c r => if r = true then do let ok ← isTrue c env (eval c env); pure (ForInStep.yield ok) else pure (ForInStep.yield r)) (fun ok s' => ok = b ∧ PU h₀ C env ρ σ' τ s') be s := by
 match ifs, h with
 | [], h =>
  refine r2 h ?_
  exact wpAny_pure ⟨rfl, g, μ, S⟩
 | [c], h =>
  rw [List.forIn_cons]
  simp only [if_true, bind_assoc, pure_bind, List.forIn_nil]
  refine wpAny_bind (wpAny_mono (Ht _ _ _ _ _ h C env g μ τ A s V R S) (fun ok s' h' => wpAny_pure h') fun _ _ x => x.elim)
 | _ :: _ :: _, h => exact aW h
theorem tv {m : Nat} (h : m ≤ cC) : m ≤ sizeLine := by
 have : cC = sizeLine := by delta cC sizeLine; rfl
 lia
inductive GY (h₀ : Heap) (C : Cx) (env : Env) (f : Fn) (ev : cy) (tr : fN) (target elt : Expr) (ifs : List Expr) (ρ : aj) (ds : List D) (σ' : aa) (rs : List D) (acc : Addr) (τ : List (Value × D)) (gi : Option Nat) (Pst : Nat → List Addr → List Addr → Shared → Prop) (m : Nat) (s' : Shared) : Prop
 | mk (i : Nat) (g' : PH) (μ' : Mu) (σ₁ : aa) (vs : Array Value) (c : Nat) (dn rest : List D) (fp wr : List Addr) (a1 : m = ds.length - i) (a2 : i ≤ ds.length) (a3 : (fk f ev tr target elt ifs ρ (ds.drop i) σ₁).run = some (rest, σ')) (a4 : dn ++ rest = rs) (a5 : dn.length ≤ i) (a6 : acc ∉ fp) (a7 : St h₀ C env g' μ' ρ σ₁ τ s') (a8 : Pst i fp wr s')
  (a9 : s'.heap.get? acc = some (ao vs c)) (a10 : RdAll μ' g' vs.toList dn) (a11 : Off C env g' μ' σ₁ (acc :: fp) (acc :: wr) gi) : GY h₀ C env f ev tr target elt ifs ρ ds σ' rs acc τ gi Pst m s'
theorem qz (He : EvS w h₀ k f ev) (Ht : ud w h₀ k f tr) (V : SEnv f env) (R : Room k A) {target elt iter : Expr} {ifs : List Expr} {scope : Scope} {pos : Pos} (h : (fk f ev tr target elt ifs ρ ds σ).run = some (rs, σ')) (hbig : ds.length ≤ cC)
  (hρ : ∀ x d, ρ.lookup x = some d → f.canSet x = false) (S : St h₀ C env g μ ρ σ τ s) (W : Wk w A it gi ds.length P Pst) (h0 : Pst 0 fp wr s) {acc : Addr} (O : Off C env g μ σ (acc :: fp) (acc :: wr) gi)
  (hr : ∀ i v s s' wr', i < ds.length → P i v s s' wr' → ∃ d, ds[i]? = some d ∧ (Rd μ g v d ∨ NewTup v d s s' wr')) (hCg : C.g₀ = g) (hCμ : C.μ₀ = μ) (ho : s.heap.get? acc = some (ao #[] 0)) (haf : acc ∉ fp) {Rr : Result → Shared → Prop}
  (hR : ∀ s' g' μ' vs c, St h₀ C env g' μ' ρ σ' τ s' → s'.heap.get? acc = some (ao vs c) → RdAll μ' g' vs.toList rs → (∃ fp wr, Off C env g' μ' σ' (acc :: fp) (acc :: wr) gi) → Rr (.ok .next) s') :
  codeAny (model PW w) A (.compLoop (.ListComp elt [⟨target, iter, ifs, 0⟩] scope pos) 0 it (.ref acc) env) Rr s := by
 have hsub : ∀ i fp wr s', Pst i fp wr s' → ∀ b ∈ acc :: wr, b ∈ acc :: fp := fun i fp wr s' st b hb => by
  clear O ho haf hR; rcases List.mem_cons.mp hb with rfl | hb
  ·exact List.mem_cons_self ..
  ·exact List.mem_cons_of_mem _ (W.sub _ _ _ _ st _ hb)
 have hshape : ∀ i fp wr s', Pst i fp wr s' → ∀ vs c, s'.heap.get? acc = some (ao vs c) → ∀ b ∈ acc :: fp, ∃ o : Obj, s'.heap.get? b = some o ∧ ∀ v, o.data ≠ .cell v := fun i fp wr s' st vs c hc b hb => by
  clear O ho haf hR hsub; rcases List.mem_cons.mp hb with rfl | hb
  ·exact ⟨_, hc, fun v e => by cases e⟩
  ·exact W.shape i _ _ s' st b hb
 refine fb (GY h₀ C env f ev tr target elt ifs ρ ds σ' rs acc τ gi Pst) ?_ ds.length ⟨0, g, μ, σ, #[], 0, [], rs, fp, wr, by simp, Nat.zero_le _, h, rfl, Nat.le_refl _, haf, S, h0, ho, trivial, O⟩
 rintro m s₁ ⟨i, g₁, μ₁, σ₁, vs, c, dn, rest, fp, wr, rfl, hi, hf, hdn, hdl, haf, S₁, st, hac, hrd, O₁⟩
 have haw : acc ∉ wr := fun hb => haf (W.sub _ _ _ _ st _ hb)
 rcases Nat.lt_or_ge i ds.length with hlt | hge
 ·refine W.item i fp wr s₁ _ _ S₁.bare hlt st fun v s₂ fp' wr' hP st₂ X₂ hfp hwr => ?_
  have S₂' := S₁.step O₁ (hsub _ _ _ _ st) (hshape i _ _ s₁ st vs c hac) (X₂.sub fun b hb => List.mem_cons_of_mem _ hb)
  have hac₂ := X₂.heap _ _ haw hac
  have haf' : acc ∉ fp' := fun hb => (hfp _ hb).elim haf fun e => by rw [hac] at e; cases e
  obtain ⟨d, hd, hrd₀⟩ := hr i v _ _ _ hlt hP
  have hgrow : ∀ {l l' : List Addr}, (∀ b ∈ l', b ∈ l ∨ s₁.heap.get? b = none) → ∀ b ∈ acc :: l', b ∈ acc :: l ∨ s₁.heap.get? b = none := fun h b hb => by
   clear O ho hR hsub hshape haf hac O₁ haw hac₂ haf'; rcases List.mem_cons.mp hb with rfl | hb
   ·exact .inl (List.mem_cons_self ..)
   ·exact (h b hb).imp (List.mem_cons_of_mem _) id
  obtain ⟨g₂, S₂, hrd₃, O₂, hup⟩ := S₁.got S₂' (O₁.grow S₁ (hgrow hfp) (hgrow hwr)) (hrd₀.imp (fun h => h.mono (fun a o e => S₁.ext a o (by rw [hCg]; exact e)) (hCμ ▸ S₁.pre)) fun h => h.more (by
   clear hP hrd₀; obtain ⟨a, l, vs', c', rfl, _, h1, _⟩ := h
   rintro e
   cases e
   rw [hac] at h1; cases h1))
  have hrd := hrd.mono hup (List.prefix_refl _)
  have hdrop : ds.drop i = d :: ds.drop (i + 1) := by
   rw [List.drop_eq_getElem_cons hlt]
   have : ds[i] = d := by rw [List.getElem?_eq_getElem hlt] at hd; exact Option.some.inj hd
   rw [this]
  rw [hdrop] at hf
  revert hf; refine lE fun ρ₂ hb => ?_
  refine tP fun ok₁ σ₅ hte hf => ?_
  refine l6 W hb st₂ ?_
  have sh₂ := hshape _ _ _ s₂ st₂ vs c hac₂
  have hsub₂ := hsub _ _ _ _ st₂
  have S₃ := S₂.add O₂ sh₂
  refine wpAny_mono (gF R V target d hb hrd₃ S₃) (fun _ s₄ S₄ => ?_) fun _ _ x => x.elim
  have hback : ∀ x e, ρ.lookup x = some e → ρ₂.lookup x = some e := fun x e hx => mI (hρ x e hx) hb hx
  have keepF : ∀ {g₅ : PH} {μ₅ : Mu} {ρ₅ : aj} {σ₅ : aa} {τ₅ : List (Value × D)} {s₅ : Shared}, St h₀ (C.add g₂ μ₁ σ₁ s₂ (acc :: fp')) env g₅ μ₅ ρ₅ σ₅ τ₅ s₅ → ∀ b ∈ acc :: fp', ∀ o, s₂.heap.get? b = some o → s₅.heap.get? b = some o := fun S₅ b hb o e =>
   S₅.phi b o (by simp only [Cx.add]; rw [if_pos hb]; exact e)
  refine wpAny_mono (rk Ht V R hte S₄) (fun ok s₅ h₅ => ?_) fun _ _ x => x.elim
  clear hte; obtain ⟨rfl, g₅, μ₅, S₅⟩ := h₅
  cases ok with
  | false =>
   refine ⟨_, ?_, i + 1, g₅, μ₅, σ₅, vs, c, dn, rest, fp', wr', rfl, hlt, hf, hdn, by lia, haf', (S₂.leaveAdd S₅).rho hback, ?_, keepF S₅ _ (List.mem_cons_self ..) _ hac₂, hrd.mono (fun a o e => S₅.ext a o e) S₅.pre, O₂.turn hsub₂ sh₂ S₅⟩
   ·lia
   ·exact W.frame _ _ _ s₂ s₅ st₂ (fun b hb o e => keepF S₅ b (List.mem_cons_of_mem _ hb) o e) fun j x e => S₅.gens j x e
  | true =>
   revert hf; refine tP fun x σ₆ hx => ?_
   refine tK fun xs σ₇ hxs hf => ?_
   cases hf
   show wpAny _ _ _ _ _ _
   refine He.go hx V R S₅ fun xv s₆ g₆ μ₆ S₆ => ?_
   have hac₆ := keepF S₆ _ (List.mem_cons_self ..) _ hac₂
   refine append_at hac₆ (fun h' hs ho' => ?_) (tv ?_)
   ·have O₆ := O₂.turn hsub₂ sh₂ S₆
    have T := (S₂.leaveAdd S₆).rho hback
    have X : Stepd (acc :: wr') gi s₆ { s₆ with heap := h' } := ⟨fun b o hb e => hs.extBut b o (fun e' => hb (e' ▸ List.mem_cons_self ..)) e, rfl, S₆.bare, fun j x _ e => e⟩
    have st₆ : Pst (i + 1) fp' wr' s₆ := W.frame _ _ _ s₂ s₆ st₂ (fun b hb o e => keepF S₆ b (List.mem_cons_of_mem _ hb) o e) fun j x e => S₆.gens j x e
    have T' := T.step O₆ hsub₂ (hshape _ _ _ s₆ st₆ vs c hac₆) X
    have hrd₆ := hrd.mono (fun a o e => S₆.ext a o e) S₆.pre
    refine ⟨_, ?_, i + 1, g₆, μ₆, σ₆, vs.push xv, c + 1, dn ++ [x], xs, fp', wr', rfl, hlt, hxs, by rw [← hdn]; simp, by simp; omega, haf', T'.sub dk, ?_, ho', ?_, O₆⟩
    ·lia
    ·refine W.frame _ _ _ s₆ _ st₆ (fun b hb o e => hs.extBut b o (by rintro rfl; exact haf' hb) e) fun j x e => e
    ·rw [Array.toList_push]
     exact hrd₆.append ⟨S₆.tmp _ (List.mem_cons_self ..), trivial⟩
   ·have := hrd.length
    rw [Array.length_toList] at this
    lia
 ·have hie : i = ds.length := Nat.le_antisymm hi hge
  clear hi hdl hge; subst hie
  refine W.done fp wr s₁ _ _ S₁.bare st fun s₂ X₂ => ?_
  have S₂ := S₁.step O₁ (hsub _ _ _ _ st) (hshape _ _ _ s₁ st vs c hac) (X₂.sub fun b hb => List.mem_cons_of_mem _ hb)
  rw [List.drop_length] at hf
  have e : rest = [] := r2 (P := fun r _ => r = []) hf rfl
  rw [e, List.append_nil] at hdn
  exact hR s₂ g₁ μ₁ vs c (r2 hf S₂) (X₂.heap _ _ haw hac) (hdn ▸ hrd) ⟨_, _, r2 hf O₁⟩
end
end
section
set_option maxRecDepth 4000
theorem dm {ρ : aj} {q : Str → Bool} {x : Str} {d : D} (h : (ρ.filter fun p => q p.1).lookup x = some d) : q x = true ∧ ρ.lookup x = some d := by
 induction ρ with
 | nil => simp at h
 | cons p r ih =>
  obtain ⟨y, e⟩ := p
  rw [List.filter_cons] at h
  by_cases hq : q y = true
  ·simp only [hq, if_true] at h
   rw [List.lookup_cons] at h ⊢
   cases hxy : x == y with
   | true =>
    simp only [hxy] at h ⊢
    have : x = y := by simpa using hxy
    exact ⟨this ▸ hq, h⟩
   | false => simp only [hxy] at h ⊢; exact ih h
  ·simp only [hq, if_false, Bool.false_eq_true] at h
   obtain ⟨h1, h2⟩ := ih h
   refine ⟨h1, ?_⟩
   rw [List.lookup_cons]
   have : (x == y) = false := by
    simp only [beq_eq_false_iff_ne, ne_eq]
    rintro rfl
    exact hq h1
   simp only [this]
   exact h2
theorem bI {env : Env} : ∀ (names : List (Str × NameKind)) (x : Str),
  (names.map fun (n, k) => if (k == NameKind.free && env.scope.kind == .function && env.kindOf n == some .cell) then (n, NameKind.cell) else (n, k)).lookup x =
   (names.lookup x).map fun k => if (k == NameKind.free && env.scope.kind == .function && env.kindOf x == some .cell) then NameKind.cell else k
 | [], x => rfl
 | (n, k) :: r, x => by
  have ih := bI (env := env) r x
  rw [List.map_cons]
  cases hx : x == n with
  | true =>
   have : x = n := by simpa using hx
   clear hx; subst this
   rw [List.lookup_cons_self]
   show List.lookup x ((if (k == NameKind.free && env.scope.kind == .function && env.kindOf x == some .cell) = true then (x, NameKind.cell) else (x, k)) :: _) = _
   split
   ·rename_i hc
    rw [List.lookup_cons_self, Option.map_some, if_pos hc]
   ·rename_i hc
    rw [List.lookup_cons_self, Option.map_some, if_neg hc]
  | false =>
   have e1 : List.lookup x ((n, k) :: r) = r.lookup x := by rw [List.lookup_cons, hx]
   rw [e1]
   show List.lookup x ((if (k == NameKind.free && env.scope.kind == .function && env.kindOf n == some .cell) = true then (n, NameKind.cell) else (n, k)) :: _) = _
   split
   ·rw [List.lookup_cons, hx]; exact ih
   ·rw [List.lookup_cons, hx]; exact ih
structure tJ (f : Fn) (sc : Scope) : Prop where
 kind : sc.kind = .function
 loc : ∀ p : Str × NameKind, p ∈ sc.names → p.2 = .local → sc.names.lookup p.1 = some .local
 cell : ∀ p : Str × NameKind, p ∈ sc.names → p.2 ≠ .cell
 fre : ∀ p : Str × NameKind, p ∈ sc.names → p.2 = .free → f.sc.lookup p.1 = some .cell
theorem zv {f : Fn} {sc : Scope} (h : jm f sc = true) : tJ f sc := by
 unfold jm at h
 simp only [Bool.and_eq_true, beq_iff_eq, List.all_eq_true] at h
 obtain ⟨h1, h2⟩ := h
 refine ⟨h1, fun p hp e => ?_, fun p hp e => ?_, fun p hp e => ?_⟩
 ·have := h2 p hp
  unfold iC at this
  rw [e] at this
  exact eq_of_beq this
 ·have := h2 p hp
  unfold iC at this
  rw [e] at this
  cases this
 ·have := h2 p hp
  unfold iC at this
  rw [e] at this
  exact eq_of_beq (Bool.and_eq_true_iff.mp this).1
section
variable {h₀ : Heap} {C : Cx} {env env' : Env} {g g' : PH} {μ μ' : Mu} {ρ ρ' ρ'' : aj} {σ σ' σ₁ σ₂ σ₃ : aa} {τ τ' : List (Value × D)} {s s' s'' : Shared} {w : World} {A : Around} {n k kk : Nat} {f : Fn} {p : Pos} {o : aO}
 {it v : Value} {d : D} {ds rs : List D} {fp wr ow : List Addr} {gi lk : Option Nat} {P : Nat → Value → Shared → Shared → List Addr → Prop} {Pst : Nat → List Addr → List Addr → Shared → Prop} {ev : cy} {tr : fN}
theorem SEnv.comp (V : SEnv f env) {sc : Scope} (K : tJ f sc) {cl : List (Str × Addr)} {L : Addr} : SEnv (ca f sc) (compEnvC sc cl L env) where
 kind := K.kind
 glob := V.glob
 blt := V.blt
 loc := fun x h => lookup_relabel_local h
 cel := fun x h => absurd rfl (K.cell _ (bh h))
 fre := fun x h => by
  show List.lookup x (sc.names.map _) = _
  rw [bI sc.names x]
  have h : sc.names.lookup x = some .free := h
  have hc := V.cel x (K.fre _ (bh h) rfl)
  rw [h, Option.map_some, V.kind, hc]
  rfl
 gl := fun x h => by
  show List.lookup x (sc.names.map _) = _
  rw [bI sc.names x]
  have h : sc.names.lookup x = some .globalImplicit := h
  rw [h, Option.map_some]
  rfl
 own := fun h => eY h
theorem mV (hu : bL σ lk = some σ') {i : Nat} {so : SO} (hi : σ'[i]? = some so) (hl : jw so) : ∃ so', σ[i]? = some so' ∧ jw so' := by
 cases lk with
 | none =>
  cases hu
  exact ⟨so, hi, hl⟩
 | some j =>
  revert hu; refine bE fun so₁ hj h2 => ?_
  obtain ⟨l, hl₁, rfl⟩ := Option.map_eq_some_iff.mp h2
  clear h2; obtain rfl := oH hl₁
  rcases cZ hi with ⟨rfl, _, rfl⟩ | ⟨_, h⟩
  ·exact ⟨_, hj, trivial⟩
  ·exact ⟨so, h, hl⟩
noncomputable def PC (h₀ : Heap) (C : Cx) (env : Env) (ρ : aj) (σ : aa) (τ : List (Value × D)) (d : D) (L : Addr) (v : Value) (s : Shared) : Prop :=
 ∃ g μ, St h₀ C env g μ ρ σ ((v, d) :: τ) s ∧ Off C env g μ σ [L] [L] none ∧ ∃ m, s.heap.Ns L m
theorem PC.done {L : Addr} (h : PC h₀ C env ρ σ τ d L v s) {h' : Heap} (hs : Heap.SameBut L s.heap h') : PV h₀ C env ρ σ τ d v { s with heap := h' } := by
 obtain ⟨g, μ, S, O, m, hm⟩ := h
 refine .of (S.step O (fun _ h => h) (fun b hb => ?_) ⟨fun b o hb e => hs.extBut b o (fun e' => hb (e' ▸ List.mem_cons_self ..)) e, rfl, S.bare, fun j x _ e => e⟩)
 clear hs O; rcases List.mem_cons.mp hb with rfl | hb
 ·obtain ⟨o, es, ep, h1, h2, _⟩ := hm
  exact ⟨o, h1, fun v e => by rw [h2] at e; cases e⟩
 ·cases hb
theorem j9 (S₀ : St h₀ C env g μ ρ σ τ s) (V : SEnv f env) (hown : f.own = true) {sc : Scope} (hok : jm f sc = true) (R : Room k A) (He : EvS w h₀ k (ca f sc) ev) (Ht : ud w h₀ k (ca f sc) tr) {target elt iter : Expr} {ifs : List Expr} {pos pos' : Pos}
  (hfirst : wpAny (model PW w) A (eval iter env) (fun x s₁ => wpAny (model PW w) A (pyIter x) (PI w A h₀ C env ρ σ₁ τ lk ds) be s₁) be s) (hfs : ∀ x, foldedSetIterable iter env x = pure x) (hbig : ds.length ≤ cC)
  (h : (fk (ca f sc) ev tr target elt ifs (iB sc ρ) ds σ₁).run = some (rs, σ₂)) (hu : bL σ₂ lk = some σ₃) {use : Option (Value → Sem Unit)} {Q : Value → Shared → Prop} {E : Value → Shared → Prop}
  (hQ : ∀ acc L s', PC h₀ C env ρ σ₃ τ (.lst rs) L (.ref acc) s' → compPost (model PW w) A E use Q (.ref acc) L (.ok .next) s') :
  wpAny (model PW w) A (comprehension (.ListComp elt [⟨target, iter, ifs, 0⟩] sc pos) sc env pos' (newList []) false (eval iter env) use) Q E s := by
 have K := zv hok
 have hcs : ∀ p : Str × NameKind, p ∈ sc.names → p.2 = .free → (env.cells.lookup p.1).isSome = true := fun p hp e => by
  obtain ⟨c, v, h1, _⟩ := S₀.celW p.1 (V.own hown) (V.cel _ (K.fre p hp e))
  rw [h1]; rfl
 obtain ⟨cl, hclos, hcl1, hcl2⟩ := nW hcs
 refine wpAny_comprehension_free (g := ⟨target, iter, ifs, 0⟩) (gs := []) rfl hfs hclos K.kind K.loc (wpAny_mono hfirst (fun x s₁ h₁ => wpAny_mono h₁ (fun it s₂ h₂ => ?_) fun _ _ e => e.elim) fun _ _ e => e.elim)
 obtain ⟨g, μ, fp, wr, gi, P, Pst, W, h0, O, S, hr, hlk⟩ := h₂
 refine wpAny_newList ?_
 refine wpAny_newFunctionEnv (fun x hx => K.cell x hx) (fun x hx => nomatch hx) (fun h' hns hsb => ?_) K.kind
 have Sa := S.at
 have Oa := O.at
 -- where things lie
 have kNe : ∀ b ob, s₂.heap.get? b = some ob → b ≠ (s₂.heap.push (ao ([] : List Value).toArray 0)).objs.size := fun b ob e => by
  rw [Heap.size_push]
  exact Nat.ne_of_lt (Nat.lt_succ_of_lt (Heap.lt_size e))
 have kAll : ∀ b ob, s₂.heap.get? b = some ob → h'.get? b = some ob := fun b ob e => hsb.extBut b ob (kNe b ob e) (Heap.get?_push_of_some _ (Heap.get?_push_of_some _ e))
 generalize hLd : (s₂.heap.push (ao ([] : List Value).toArray 0)).objs.size = L at *
 have hLn : s₂.heap.get? L = none := by
  cases e : s₂.heap.get? L with
  | none => rfl
  | some ob => exact absurd rfl (kNe _ _ e)
 have hne : s₂.heap.objs.size ≠ L := by rw [← hLd, Heap.size_push]; exact Nat.ne_of_lt (Nat.lt_succ_self _)
 have hac : h'.get? s₂.heap.objs.size = some (ao #[] 0) := hsb.extBut _ _ hne (Heap.get?_push_of_some _ (Heap.get?_push_size _ rfl))
 have hAn := bg s₂.heap
 generalize s₂.heap.objs.size = acc at *
 obtain ⟨aΦ, ag, aL, aocc⟩ := Sa.fresh hAn
 obtain ⟨lΦ, lg, lL, locc⟩ := Sa.fresh hLn
 have hshape := W.shape 0 _ _ s₂ h0
 have Wsub := W.sub _ _ _ _ h0
 have fne : ∀ b ∈ fp, b ≠ acc ∧ b ≠ L := fun b hb => by
  obtain ⟨ob, h1, _⟩ := hshape b hb
  exact ⟨(by rintro rfl; rw [hAn] at h1; cases h1), (by rintro rfl; rw [hLn] at h1; cases h1)⟩
 have OW : Ow (C.at g μ σ₁) env g s₂ (L :: acc :: wr) := by
  refine ⟨?_, ?_, ?_, ?_⟩
  ·intro b hb
   clear hLd hns hsb kNe hLn hne lg lL locc fne; rcases List.mem_cons.mp hb with rfl | hb
   ·exact lΦ
   ·clear hac hAn ag aL aocc; rcases List.mem_cons.mp hb with rfl | hb
    ·exact aΦ
    ·exact Oa.Φ b hb
  ·intro b hb
   clear hLd hns hsb kNe hLn hne lΦ lL locc fne; rcases List.mem_cons.mp hb with rfl | hb
   ·exact lg
   ·clear hac hAn aΦ aL aocc; rcases List.mem_cons.mp hb with rfl | hb
    ·exact ag
    ·exact Oa.g b hb
  ·intro hb
   rcases List.mem_cons.mp hb with e | hb
   ·exact lL e.symm
   ·rcases List.mem_cons.mp hb with e | hb
    ·exact aL e.symm
    ·exact Oa.loc _ (Wsub _ hb) rfl
  ·intro c v ⟨oc, h1, h2⟩ hb
   clear hLd hns hsb kNe hne lΦ lg lL locc fne; rcases List.mem_cons.mp hb with rfl | hb
   ·rw [hLn] at h1; cases h1
   ·clear hac aΦ ag aL aocc; rcases List.mem_cons.mp hb with rfl | hb
    ·rw [hAn] at h1; cases h1
    ·obtain ⟨ob, h3, h4⟩ := hshape c (Wsub _ hb)
     rw [h1] at h3
     cases h3
     exact h4 _ h2
 have Sc := Sa.enter 0 (.inl ⟨rfl, rfl⟩) (env' := compEnvC sc cl L env) (s' := { s₂ with heap := h', toks := s₂.toks + ([] : List (Str × Value)).length }) (ρ' := iB sc ρ) OW kAll rfl Sa.bare (fun _ _ e => e) hLn (List.mem_cons_self ..) ⟨_, hns, fun x d hx hk => by
   obtain ⟨h1, h2⟩ := dm (q := fun x => !(sc.names.lookup x == some .local)) hx
   have hk' : List.lookup x (sc.names.map _) = some NameKind.local := hk
   rw [bI sc.names x] at hk'
   cases e : sc.names.lookup x with
   | none => rw [e] at hk'; cases hk'
   | some kd =>
    rw [e, Option.map_some] at hk'
    split at hk'
    ·cases hk'
    ·cases hk'
     rw [e] at h1
     simp at h1⟩
  (fun x d hx hk => by
   obtain ⟨h1, h2⟩ := dm (q := fun x => !(sc.names.lookup x == some .local)) hx
   have hfree : sc.names.lookup x = some .free := by
    have hk' : List.lookup x (sc.names.map _) = some NameKind.cell ∨ List.lookup x (sc.names.map _) = some NameKind.free := hk
    rw [bI sc.names x] at hk'
    cases e : sc.names.lookup x with
    | none => rw [e] at hk'; rcases hk' with h | h <;> cases h
    | some kd =>
     have hnc := K.cell _ (bh e)
     rw [e, Option.map_some] at hk'
     split at hk'
     ·rename_i hc
      simp only [Bool.and_eq_true, beq_iff_eq] at hc
      rw [hc.1.1]
     ·rcases hk' with h | h
      ·clear e; cases h; exact absurd rfl hnc
      ·clear e hnc; cases h; rfl
   obtain ⟨c, v, a1, a2, a3⟩ := Sa.cel x d h2 (.inl (V.cel _ (K.fre _ (bh hfree) rfl)))
   refine ⟨c, v, ?_, ?_, a3⟩
   ·show cl.lookup x = some c
    rw [hcl2 (x, .free) (bh hfree) rfl]; exact a1
   ·obtain ⟨oc, e1, e2⟩ := a2
    exact ⟨oc, kAll _ _ e1, e2⟩)
  (fun x hf => by cases hf)
  (fun x y c hx hy => Sa.celD x y c (hcl1 _ _ hx) (hcl1 _ _ hy))
 have st0 : Pst 0 fp wr { s₂ with heap := h', toks := s₂.toks + ([] : List (Str × Value)).length } := W.frame 0 _ _ s₂ _ h0 (fun b hb ob e => kAll b ob e) fun _ _ e => e
 have OC : Off (Cx.all (C.at g μ σ₁) g μ σ₁ { s₂ with heap := h', toks := s₂.toks + ([] : List (Str × Value)).length } (L :: acc :: wr)) (compEnvC sc cl L env) g μ σ₁ (acc :: fp) (acc :: wr) gi := by
  refine ⟨?_, ?_, ?_, ?_, ?_, ?_⟩
  ·intro b hb
   clear hac hAn aΦ ag aL aocc OW Sc; rcases List.mem_cons.mp hb with rfl | hb
   ·exact hne
   ·exact (fne b hb).2
  ·intro b hb i so x m hi hl hm
   clear hne hac hAn aΦ ag aL fne OW Sc; rcases List.mem_cons.mp hb with rfl | hb
   ·exact aocc i so x m hi hl.occ hm
   ·exact Oa.live b hb i so x m hi hl hm
  ·intro b hb i so x m hi hl hm
   clear hne hac hAn aΦ ag aL fne OW Sc; rcases List.mem_cons.mp hb with rfl | hb
   ·exact aocc i so x m hi hl hm
   ·exact Oa.occ b hb i so x m hi hl hm
  ·intro b hb
   exact Cx.all_none (.inl (List.mem_cons_of_mem _ hb))
  ·intro b hb
   clear hne hac hAn aΦ aL aocc fne OW Sc; rcases List.mem_cons.mp hb with rfl | hb
   ·exact ag
   ·exact Oa.g b hb
  ·exact Oa.gn
 have loop : codeAny (model PW w) A (.compLoop (.ListComp elt [⟨target, iter, ifs, 0⟩] sc pos) 0 it (.ref acc) (compEnvC sc cl L env)) (compPost (model PW w) A E use Q (.ref acc) L) { s₂ with heap := h', toks := s₂.toks + ([] : List (Str × Value)).length } := by
  refine qz He Ht (V.comp K) R h hbig (fun x d hx => ?_) Sc W st0 OC hr rfl rfl hac (fun hb => (fne _ hb).1 rfl) fun s' g' μ' vs c S' ho' hrd ⟨fp', wr', O'⟩ => ?_
  ·obtain ⟨h1, h2⟩ := dm (q := fun x => !(sc.names.lookup x == some .local)) hx
   unfold Fn.canSet
   show (sc.names.lookup x).any (Dt false) = false
   cases e : sc.names.lookup x with
   | none => rfl
   | some kd =>
    rw [e] at h1
    clear e; cases kd <;> first | rfl | (simp at h1)
  ·have Se := Sa.exit OW kAll (List.mem_cons_self ..) S'
   have Su := S.unlock Se hu hlk
   refine hQ acc L s' ?_
   obtain ⟨mL, hmL, _⟩ := S'.loc
   have accΦ : C.Φ acc = none := aΦ
   have accg : g' acc = none := O'.g acc (List.mem_cons_self ..)
   have oldO : ∀ (i : Nat) (so : SO) (x m : Addr), σ₃[i]? = some so → jw so → μ'[i]? = some (x, m) → m ≠ acc ∧ m ≠ L := fun i so x m hi hl hm => by
    obtain ⟨so', h1, h2⟩ := mV hu hi hl
    refine ⟨O'.occ acc (List.mem_cons_self ..) i so' x m h1 h2 hm, ?_⟩
    have k1 := S'.stoAt h1 hm
    cases so' with
    | dead => cases h2
    | lock l => exact k1.e4
    | lst l => exact k1.e4
    | inst c fs => exact k1.e4
   have Sf := Su.fix ho' accΦ aL (by intro v e; cases e) fun i so x m hi hl hm => (oldO i so x m hi hl hm).1
   have hup : ∀ b ob, g' b = some ob → fq g' acc (ao vs c) b = some ob := bV (.inl accg)
   refine ⟨fq g' acc (ao vs c), μ', Sf.put ?_, ⟨?_, ?_, ?_, ?_, ?_, ?_⟩, mL, hmL⟩
   ·skip
    exact ⟨acc, vs, c, rfl, aP .., hrd.mono hup (List.prefix_refl _)⟩
   ·intro b hb
    clear hLd hns hsb kNe hLn hne lΦ lg locc fne OW Sc OC S' O' hmL oldO; rcases List.mem_cons.mp hb with rfl | hb
    ·exact lL
    ·cases hb
   ·intro b hb i so x m hi hl hm
    clear hLd hns hsb kNe hLn hne lΦ lg lL locc fne OW Sc OC S' O' hmL; rcases List.mem_cons.mp hb with rfl | hb
    ·exact (oldO i so x m hi hl.occ hm).2
    ·cases hb
   ·intro b hb i so x m hi hl hm
    clear hLd hns hsb kNe hLn hne lΦ lg lL locc fne OW Sc OC S' O' hmL; rcases List.mem_cons.mp hb with rfl | hb
    ·exact (oldO i so x m hi hl hm).2
    ·cases hb
   ·intro b hb
    clear hLd hns hsb kNe hLn hne lg lL locc fne OW Sc OC S' O' hmL oldO; rcases List.mem_cons.mp hb with rfl | hb
    ·exact lΦ
    ·cases hb
   ·intro b hb
    clear hLd hns hsb kNe hLn lΦ lg lL locc fne OW Sc OC O' hmL oldO; rcases List.mem_cons.mp hb with rfl | hb
    ·rw [a0 _ _ (Ne.symm hne)]
     exact S'.owng
    ·cases hb
   ·intro j hj; cases hj
 exact codeAny_compStart_list loop (wpAny_mono (W.self 0 _ _ _ _ be st0 loop) (fun _ _ h => h) fun _ _ x => x.elim)
end
end
section
set_option maxRecDepth 4000
section
variable {prog : Program} {w : World} {A : Around} {E : Value → Shared → Prop} {s : Shared}
theorem qI (b n : Nat) (hb : b ≤ n) : Builtin.Slice.sliceAdjust none (some (b : Int)) 1 (n : Int) = (0, (b : Int)) := by
 delta Builtin.Slice.sliceAdjust
 have h1 : ¬ ((1 : Int) < 0) := by lia
 have h2 : ¬ ((b : Int) < 0) := by lia
 simp only [h1, h2, if_false]
 congr 1
 lia
theorem qb (b : Nat) : Builtin.Slice.slicePlaces 0 (b : Int) 1 = b := by
 delta Builtin.Slice.slicePlaces
 have h1 : (1 : Int) > 0 := by lia
 simp only [h1, if_true, Int.ediv_one]
 split <;> lia
theorem ip {sl : Addr} {b n : Nat} {u : Tok} {Q : Int × Int × Nat → Shared → Prop} (hs : s.heap.IsSliceOf sl .none (.int b u) .none) (hb : b ≤ n) (h : Q (0, 1, b) s) :
  wpAny (model prog w) A (Builtin.Slice.sliceApplied (.ref sl) (pure (n : Int))) Q E s := by
 obtain ⟨os, hos, hcs, hds⟩ := id hs
 delta Builtin.Slice.sliceApplied Builtin.Slice.sliceFields
 refine wpAny_bind (wpAny_bind (wpAny_field hos hds (x := .none) rfl (wpAny_bind (wpAny_field hos hds (x := .int b u) rfl (wpAny_bind (wpAny_field hos hds (x := .none) rfl (wpAny_pure ?_)))))))
 refine wpAny_bind (slicePart_none ?_)
 show wpAny _ _ (if ((1 : Int) == 0) = true then _ else _) _ _ s
 rw [if_neg (by decide)]
 refine wpAny_bind (slicePart_none (wpAny_bind (slicePart_int (wpAny_bind (wpAny_pure ?_)))))
 show wpAny _ _ (match Builtin.Slice.sliceAdjust none (some (b : Int)) 1 (n : Int) with | (lo, hi) => pure (lo, (1 : Int), Builtin.Slice.slicePlaces lo hi 1)) _ _ s
 rw [qI b n hb]
 show wpAny _ _ (pure ((0 : Int), (1 : Int), Builtin.Slice.slicePlaces 0 (b : Int) 1)) _ _ s
 rw [qb b]
 exact wpAny_pure h
theorem uV (xs : Array Value) (b : Nat) : ((List.range b).filterMap fun (k : Nat) => xs[((0 : Int) + (k : Int) * 1).toNat]?).toArray = (xs.toList.take b).toArray := by
 have e : (fun (k : Nat) => xs[((0 : Int) + (k : Int) * 1).toNat]?) = fun k => xs[0 + k]? := by
  funext k
  have : ((0 : Int) + (k : Int) * 1).toNat = 0 + k := by lia
  rw [this]
 rw [e]
 have := pick_run xs 0 b
 rw [List.filterMap_map] at this
 have e2 : ((fun x => xs[x]?) ∘ fun x => 0 + x) = fun k => xs[0 + k]? := rfl
 rw [e2] at this
 rw [this, List.drop_zero]
theorem g0 {t sl : Addr} {items : Array Value} {a : Nat} {u : Tok} {Q : Value → Shared → Prop} (ht : IsTup s.heap t items) (hs : s.heap.IsSliceOf sl .none (.int a u) .none) (ha : a < items.size)
  (h : Q (.ref s.heap.objs.size) { s with heap := s.heap.push { cls := .type "tuple", data := .seq (items.toList.take a).toArray } })
  (hsz : items.size ≤ sizeLine) : wpAny (model prog w) A (getItem (.ref t) (.ref sl)) Q E s := by
 have hdrop : sizeOk (.seq (items.toList.take a).toArray) := by
  show (items.toList.take a).toArray.size ≤ sizeLine
  rw [List.size_toArray, List.length_take, Array.length_toList]
  lia
 obtain ⟨os, hos, hcs, hds⟩ := id hs
 have hTs : s.TypeIs (.ref sl) "slice" := ⟨os, hos, hcs⟩
 delta getItem
 try with_reducible refine wpAny_holding ?_
 first | refine wpAny_bind (wpAny_pure ?_) | skip
 refine wpAny_bind (wpAny_sequenceKey ht.typeIs (by decide) ?_)
 refine wpAny_bind (wpAny_callSpecial?_slot (name := Str.ofString "__getitem__") ht.typeIs slot_tuple_getitem
  (wpAny_call_entry slot_tuple_getitem ht.typeIs entry_tuple_getitem ?_ (args_tuple_getitem _ _)))
 show wpAny _ _ (Builtin.Tuple.tupleItemsOf (.ref t) >>= _) _ _ s
 refine wpAny_bind (tupleItemsOf_ ht ?_)
 refine wpAny_bind (wpAny_typeOf hTs ?_)
 rw [if_pos (by decide)]
 refine wpAny_bind (ip hs (Nat.le_of_lt ha) ?_)
 have hno : ¬ (((0 : Int) == 0 && (1 : Int) == 1 && a == items.size) = true) := by
  have : (a == items.size) = false := by rw [beq_eq_false_iff_ne]; lia
  rw [this]; simp
 show wpAny _ _ (if ((0 : Int) == 0 && (1 : Int) == 1 && a == items.size) = true then _ else _) _ _ s
 rw [if_neg hno, uV items a]
 first
  | exact wpAny_bind (m := Builtin.Tuple.tupleExact _) (wpAny_newObj_type (wpAny_pure ⟨_, rfl, wpAny_pure h⟩) hdrop)
  | exact wpAny_bind (m := Builtin.Tuple.tupleExact _) (wpAny_newObj_type (wpAny_bind (wpAny_pure (wpAny_pure ⟨_, rfl, wpAny_pure h⟩))) hdrop)
  | exact wpAny_bind (wpAny_bind (m := Builtin.Tuple.tupleExact _) (wpAny_newObj_type (wpAny_pure (wpAny_pure ⟨_, rfl, wpAny_pure h⟩)) hdrop))
  | exact wpAny_bind (wpAny_bind (m := Builtin.Tuple.tupleExact _) (wpAny_newObj_type (wpAny_pure ⟨_, rfl, wpAny_pure h⟩) hdrop))
end
section
variable {h₀ : Heap} {C : Cx} {env : Env} {g : PH} {μ : Mu} {ρ ρ' : aj} {σ σ' σ₁ σ₂ : aa} {τ τ' : List (Value × D)} {s : Shared} {w : World} {A : Around} {n k : Nat} {a b v : Value} {da db d r : D} {f : Fn} {p : Pos} {o : aO} {mg mb : Str → Option Value} {ev : cy} {tr : fN}
theorem gH {op : CmpOp} {e : Expr} (h : de e = true) : behindInMarks op e = false := by
 cases e <;> first | rfl | exact eY h
theorem mq {e : Expr} (h : de e = true) : ∀ x, foldedSetIterable e env x = pure x := by
 intro x
 cases e <;> first | rfl | exact eY h
theorem mM {e : Expr} {m : Str} {whole : Sem Value} (h : jt (view e) = true) : attributeBase e m env whole = whole := by
 have hV := dD e
 generalize view e = v at h hV
 cases hV <;> first | rfl | exact eY h
theorem pc (V : SEnv f env) (S : St h₀ C env g μ ρ σ τ s) {x : Str} (hx : f.isL x = true) (h : ρ.lookup x = some d) : wpAny (model PW w) A (loadName env x) (PV h₀ C env ρ σ τ d) be s := by
 have fin : ∀ {v}, Rd μ g v d → PV h₀ C env ρ σ τ d v s := fun r => .of (S.put r)
 obtain ⟨kd, hk, hx⟩ := cN hx
 have cl : env.kindOf x = some .cell → wpAny (model PW w) A (loadName env x) (PV h₀ C env ρ σ τ d) be s := fun hk => by
  obtain ⟨c, v, a1, a2, a3⟩ := S.cel x d h (.inl hk)
  exact wpAny_loadName_cell V.kind hk a1 a2 (fin a3)
 cases kd <;> first | exact eY hx | skip
 ·obtain ⟨m, hm, hm2⟩ := S.loc
  obtain ⟨v, hv, hr⟩ := hm2 x d h (V.loc x hk)
  exact wpAny_loadName_local V.kind (V.loc x hk) hm hv (fin hr)
 ·exact cl (V.cel x hk)
 ·exact cl (V.fre x hk)
theorem vN (B : Bs w h₀ mg mb) (HG : ∀ x d, o.glob x = some d → ∃ v, LoadB mg mb x v ∧ ∀ μ g, Rd μ g v d) (V : SEnv f env) (S : St h₀ C env g μ ρ σ τ s) {x : Str}
  (h : (if x == Mine.S "__debug__" then T.ret (.bool true, σ) else if f.isL x then .lb (ρ.lookup x) fun d => .ret (d, σ) else .lb (gd (f.isG x)) fun _ => .lb (o.glob x) fun d => .ret (d, σ)).run = some (d, σ')) :
  wpAny (model PW w) A (eval (.Name x p) env) (PV h₀ C env ρ σ' τ d) be s := by
 by_cases hx : (x == Mine.S "__debug__") = true
 ·rw [if_pos hx] at h
  refine r2 h ?_
  have hx := eq_of_beq hx
  refine q2_ hx ?_
  refine wpAny_bind (wpAny_standAt ?_)
  rw [if_pos (by rfl)]
  exact wpAny_bind (wpAny_rule (wpAny_pure (S.boolV true ku)))
 ·rw [if_neg hx] at h
  have hd : (x == ("__debug__" : Str)) = false := by simpa using hx
  by_cases hl : f.isL x = true
  ·rw [if_pos hl] at h
   revert h; refine lE fun d' h1 h2 => ?_
   refine r2 h2 ?_
   exact wpAny_Name (pc V S hl h1) hd
  ·rw [if_neg hl] at h
   revert h; refine lE fun _ hg => ?_
   refine lE fun d' h1 h2 => ?_
   refine r2 h2 ?_
   obtain ⟨v, hl, hr⟩ := HG _ _ h1
   exact dv B S V (bp hg) hl (.of (S.put (hr _ _)))
end
end
section
set_option maxRecDepth 4000
section
variable {h₀ : Heap} {C : Cx} {env : Env} {g : PH} {μ : Mu} {ρ ρ' : aj} {σ σ' σ₁ σ₂ : aa} {τ τ' : List (Value × D)} {s : Shared} {w : World} {A : Around} {n k : Nat} {a b v : Value} {da db d r : D} {f : Fn} {p : Pos} {o : aO} {mg mb : Str → Option Value} {ev : cy} {tr : fN}
theorem oQ (He : EvS w h₀ k f ev) (V : SEnv f env) (R : Room k A) {x : Option Expr} {i : Option Int} (h : (lK ev ρ σ x).run = some (i, σ')) (S : St h₀ C env g μ ρ σ τ s) :
  wpAny (model PW w) A (evalPart x env) (fun l s' => IsB l i ∧ PU h₀ C env ρ σ' τ s') be s := by
 cases x with
 | none =>
  refine r2 h ?_
  exact wpAny_pure ⟨rfl, g, μ, S⟩
 | some e =>
  revert h; refine tP fun d σ₂ h1 => ?_
  refine lE fun j hj h3 => ?_
  refine r2 h3 ?_
  obtain rfl := aH hj
  rw [evalPart_some]
  refine He.go h1 V R S fun v s' g' μ' S' => ?_
  have hv := S'.tmp _ (List.mem_cons_self ..)
  exact ⟨hv, g', μ', S'.sub dk⟩
theorem rF (S : St h₀ C env g μ ρ σ τ s) (ht : ∀ p ∈ τ', p ∈ τ) {lo hi : Option Int} {vl vu : Value} {sl : Addr} {value slice : Expr} (hv : Rd μ g v d) (h : cI σ d lo hi = some r) (hs : s.heap.IsSliceOf sl vl vu .none) (pl : IsB vl lo) (pu : IsB vu hi) :
  wpAny (model PW w) A (subscriptTail value slice v (.ref sl)) (PV h₀ C env ρ (jC f p σ r).2 τ' (jC f p σ r).1) be s := by
 obtain ⟨ops, hops⟩ := fR slice v (.ref sl)
 revert h; refine oE (fun h1 => ?_) fun h => ?_
 ·revert h1; refine bE fun x hx h2 => ?_
  obtain ⟨_, hb, rfl⟩ := Option.map_eq_some_iff.mp h2
  obtain rfl := aT hx
  obtain ⟨ha, t, rfl⟩ := hv
  exact tail_any (typeIs_str s _ t) F.slot_str_getitem.lookup (jH S ht ha (of_decide_eq_true (bp hb)) hs pl pu) hops
 revert h; refine oE (fun h1 => ?_) fun h1 => ?_
 ·revert h1; refine bE fun l hl h2 => ?_
  obtain ⟨_, hb, rfl⟩ := Option.map_eq_some_iff.mp h2
  obtain ⟨x, vs, c, rfl, ho, hr⟩ := S.seqOf_lst hv hl
  exact tail_any ⟨_, ho, rfl⟩ slot_list_getitem.lookup (nH S ht ho hr (of_decide_eq_true (bp hb)) hs pl pu) hops
 ·revert h1; refine bE fun l hl => ?_
  refine bE fun _ hn h5 => ?_
  obtain ⟨bb, rfl, h4⟩ := Option.bind_eq_some_iff.mp h5
  clear h5; obtain ⟨_, hb, rfl⟩ := Option.map_eq_some_iff.mp h4
  obtain rfl := dM hl
  obtain rfl : lo = none := by simpa using bp hn
  obtain ⟨a, vs, c, rfl, h2, h3⟩ := hv
  cases pl
  obtain ⟨u, rfl⟩ := pu
  obtain ⟨b1, b2, b3⟩ := of_decide_eq_true (bp hb)
  have e := h3.length
  rw [Array.length_toList] at e
  have ho := S.imm _ _ h2
  clear hb h4; obtain ⟨m, rfl⟩ := Int.eq_ofNat_of_zero_le b1
  refine tail_any ⟨_, ho, rfl⟩ slot_tuple_getitem.lookup ?_ hops
  refine g0 ⟨_, ho, rfl, _, rfl⟩ hs (by lia) ?_ (tv (by lia))
  obtain ⟨g', S'⟩ := S.tuple (h3.take m) ht
  exact .of S'
theorem sZ (He : EvS w h₀ k f ev) (V : SEnv f env) (R : Room k A) (S : St h₀ C env g μ ρ σ τ s) {x : Expr} {lo hi : Option Expr} {q : Pos} {i j : Option Int} {σ₃ : aa} (h1 : (ev x ρ σ).run = some (d, σ₁)) (h2 : (lK ev ρ σ₁ lo).run = some (i, σ₂)) (h3 : (lK ev ρ σ₂ hi).run = some (j, σ₃))
  (h4 : cI σ₃ d i j = some r) : wpAny (model PW w) A (eval (.Subscript x (.Slice lo hi none q) p) env) (PV h₀ C env ρ (jC f p σ₃ r).2 τ (jC f p σ₃ r).1) be s := by
 refine Subscript_ (He.go h1 V R S fun v s₁ g₁ μ₁ S₁ => ?_)
 refine wpAny_Slice (wpAny_mono (oQ He V R h2 S₁) (fun l s₂ ⟨pl, g₂, μ₂, S₂⟩ => ?_) fun _ _ x => x.elim)
 refine wpAny_mono (oQ He V R h3 S₂) (fun u s₃ ⟨pu, g₃, μ₃, S₃⟩ => ?_) fun _ _ x => x.elim
 rw [evalPart_none]
 refine wpAny_pure ?_
 have S₄ := S₃.more (h' := s₃.heap.push { cls := .type "slice", data := .fields #[l, u, .none] }) (fun b o' h => Heap.get?_push_of_some _ h) s₃.toks
 exact rF S₄ dk (S₄.tmp _ (List.mem_cons_self ..)) h4 (Heap.IsSliceOf.new ..) pl pu
theorem zq (He : EvS w h₀ k f ev) (V : SEnv f env) (R : Room k A) (S : St h₀ C env g μ ρ σ τ s) {x c : Expr} {q : Pos} {l : List D} (h1 : (ev x ρ σ).run = some (d, σ₁)) (h2 : (ev c ρ σ₁).run = some (.int (-1), σ₂)) (h3 : aF σ₂ d = some l) (hz : l.length ≤ cC) :
  wpAny (model PW w) A (eval (.Subscript x (.Slice none none (some c) q) p) env) (PV h₀ C env ρ (aJ f p σ₂ l.reverse).2 τ (aJ f p σ₂ l.reverse).1) be s := by
 refine Subscript_ (He.go h1 V R S fun v s₁ g₁ μ₁ S₁ => ?_)
 refine wpAny_Slice ?_
 rw [evalPart_none]
 refine wpAny_pure (wpAny_pure ?_)
 rw [evalPart_some]
 refine He.go h2 V R S₁ fun u s₂ g₂ μ₂ S₂ => ?_
 have hu := S₂.tmp _ (List.mem_cons_self ..)
 obtain ⟨t, rfl⟩ := hu
 have S₃ := S₂.more (h' := s₂.heap.push { cls := .type "slice", data := .fields #[.none, .none, .int (-1) t] }) (fun b o' h => Heap.get?_push_of_some _ h) s₂.toks
 have hv := S₃.tmp _ (List.mem_cons_of_mem _ (List.mem_cons_self ..))
 obtain ⟨x', vs, c', hx', ho, hr⟩ := S₃.seqOf_lst hv h3
 simp only at hx'
 refine q2_ hx' ?_
 obtain ⟨ops, hops⟩ := fR (.Slice none none (some c) q) (.ref x') (.ref s₂.heap.objs.size)
 exact tail_any ⟨_, ho, rfl⟩ slot_list_getitem.lookup (mf S₃ lz ho hr hz (Heap.IsSliceOf.new ..)) hops
theorem St.inst (S : St h₀ C env g μ ρ σ τ s) {c : Nat} {fs : List (Str × D)} (hv : Rd μ g v d) (h : nD σ d = some (c, fs)) :
  ∃ y dd mm, v = .ref y ∧ GI s.heap.get? y c dd ∧ s.heap.Ns1 dd mm ∧ (∀ x, (∀ p ∈ fs, p.1 ≠ x) → mm x = none) ∧ RdFs μ g mm fs := by
 revert h; refine oE (fun h3 => ?_) fun h3 => ?_
 ·obtain rfl := zO h3
  obtain ⟨a, dd, m, rfl, h1, ⟨oo, es, ep, n1, n2⟩, h3, h4⟩ := hv
  exact ⟨a, dd, m, rfl, h1.mono S.imm, ⟨oo, es, ep, S.imm _ _ n1, n2⟩, h3, h4⟩
 ·revert h3; refine bE fun i h4 h5 => ?_
  obtain rfl := cB h4
  obtain ⟨a, m, h1, rfl⟩ := hv
  have k1 := S.stoAt ((pj h5)) h1
  obtain ⟨b1, b2, b3, b4, mm, b5, b6, b7⟩ := k1
  exact ⟨a, m, mm, rfl, b4.mono S.imm, b5, b6, b7⟩
theorem v6 (HO : OrcOK w h₀ mg mb k o) (S : St h₀ C env g μ ρ σ τ s) (ht : ∀ p ∈ τ', p ∈ τ) {x : Str} (hv : Rd μ g v d) (h : mj o σ d x = some r) : wpAny (model PW w) A (getAttr v x true) (PV h₀ C env ρ σ τ' r) be s := by
 revert h; refine oE (fun h1 => ?_) fun h1 => ?_
 ·revert h1; refine bP fun c fs hi => ?_
  refine bE fun _ hf h9 => ?_
  obtain ⟨y, dd, mm, rfl, k1, k2, _, k4⟩ := S.inst hv hi
  obtain ⟨v, e1, e2⟩ := k4.get h9
  exact HO.fldG c x (bp hf) A be s y dd mm v _ S.baseK k1 k2 e1 (p8 e2) fun t => .of (((S.sub ht).put e2).toks t)
 ·revert h1; refine bE fun a ha h => ?_
  obtain rfl := eJ ha
  refine q2_ hv ?_
  obtain ⟨v, h1, h2⟩ := HO.attr _ _ _ h
  exact h2 A be s _ S.baseK fun t => .of (((S.sub ht).put (h1 _ _)).toks t)
theorem ly {Q : Bool → Shared → Prop} {E : Value → Shared → Prop} {c : Bool} (hv : Rd μ g v d) (h : oj d = some c) (hQ : Q c s) : wpAny (model PW w) A (truthy v) Q E s := by
 cases d <;> first | exact aW h | cases h
 ·subst hv; exact truthy_none hQ
 ·subst hv; exact wpAny_truthy_bool hQ
 ·obtain ⟨t, rfl⟩ := hv; exact PyProof.Rows.truthy_int hQ
theorem pM (He : EvS w h₀ k f ev) (V : SEnv f env) (R : Room k A) : ∀ (es : List Expr) {σ σ' : aa} {d : D} {g : PH} {μ : Mu} {s : Shared}, (zP ev es ρ σ).run = some (d, σ') → St h₀ C env g μ ρ σ τ s → wpAny (model PW w) A (eval (.BoolOp .And es p) env) (PV h₀ C env ρ σ' τ d) be s
 | [], _, _, _, _, _, _, h, _ => by cases h
 | [e], σ, σ', d, g, μ, s, h, S => by
  revert h; refine tP fun d₁ σ₁ h1 h2 => ?_
  refine r2 h2 ?_
  exact BoolOp_one (He.pv h1 V R S)
 | e :: e' :: es, σ, σ', d, g, μ, s, h, S => by
  revert h; refine tP fun d₁ σ₁ h1 => ?_
  refine bE fun c hc h3 => ?_
  refine BoolOp_and (He.go h1 V R S fun v s₁ g₁ μ₁ S₁ => ?_)
  refine ly (S₁.tmp _ (List.mem_cons_self ..)) hc ?_
  cases c with
  | true =>
   rw [if_pos rfl]
   exact pM He V R (e' :: es) h3 (S₁.sub dk)
  | false =>
   refine r2 h3 ?_
   rw [if_neg Bool.false_ne_true]
   exact .of S₁
theorem lm (Ht : ud w h₀ k f tr) (V : SEnv f env) (R : Room k A) {op : BoolOp} {b : Bool} (ho : (op = .And ∧ b = true) ∨ (op = .Or ∧ b = false)) : ∀ (es : List Expr) {σ σ' : aa} {c : Bool} {g : PH} {μ : Mu} {s : Shared}, (tD tr b es ρ σ).run = some (c, σ') → St h₀ C env g μ ρ σ τ s →
  wpAny (model PW w) A (allTrue op es env) (fun x s' => x = c ∧ PU h₀ C env ρ σ' τ s') be s
 | [], σ, σ', c, g, μ, s, h, S => by
  refine r2 h ?_
  clear h; rcases ho with ⟨rfl, rfl⟩ | ⟨rfl, rfl⟩ <;> exact wpAny_pure ⟨rfl, g, μ, S⟩
 | e :: es, σ, σ', c, g, μ, s, h, S => by
  revert h; refine tP fun c₁ σ₁ h1 h2 => ?_
  have ih : ∀ {c₁ : Bool}, (T.ask (c₁ == b) (tD tr b es ρ σ₁) (.ret (c₁, σ₁))).run = some (c, σ') → ∀ s₁, PU h₀ C env ρ σ₁ τ s₁ → wpAny (model PW w) A (if c₁ == b then allTrue op es env else pure c₁) (fun x s' => x = c ∧ PU h₀ C env ρ σ' τ s') be s₁ := fun {c₁} h2 s₁ ⟨g₁, μ₁, S₁⟩ => by
   cases hcb : c₁ == b with
   | true => rw [hcb] at h2; exact lm Ht V R ho es h2 S₁
   | false => rw [hcb] at h2; cases h2; exact wpAny_pure ⟨rfl, g₁, μ₁, S₁⟩
  rcases ho with ⟨rfl, rfl⟩ | ⟨rfl, rfl⟩
  ·rw [arm_allTrue_cons]
   refine wpAny_bind (wpAny_mono (Ht _ _ _ _ _ h1 C env g μ τ A s V R S) (fun x s₁ h₁ => ?_) fun _ _ x => x)
   clear h1; obtain ⟨rfl, h₁⟩ := h₁
   cases x <;> exact ih h2 s₁ h₁
  ·rw [arm_allTrue_cons]
   refine wpAny_bind (wpAny_mono (Ht _ _ _ _ _ h1 C env g μ τ A s V R S) (fun x s₁ h₁ => ?_) fun _ _ x => x)
   clear h1; obtain ⟨rfl, h₁⟩ := h₁
   cases x <;> exact ih h2 s₁ h₁
noncomputable def GenJ (w : World) (h₀ : Heap) (k : Nat) (a : Addr) (ds : List D) (l : List D) : Prop :=
 ∀ (C : Cx) (env : Env) (g : PH) (μ : Mu) (ρ : aj) (σ : aa) (τ : List (Value × D)) (vs : List Value) (A : Around) (s : Shared), Room k A → St h₀ C env g μ ρ σ τ s → RdAll μ g vs ds →
  wpAny (model PW w) A (call (.ref a) vs []) (fun x s₁ => wpAny (model PW w) A (pyIter x) (PI w A h₀ C env ρ σ τ none l) be s₁) be s
structure cF (w : World) (h₀ : Heap) (mg mb : Str → Option Value) (k : Nat) (o : aO) : Prop extends OrcOK w h₀ mg mb k o where
 gen : ∀ x ds l, o.gen x ds = some l → ∃ a, LoadB mg mb x (.ref a) ∧ bU w h₀ a ∧ GenJ w h₀ k a ds l
theorem s9 {e : Expr} {c : Const} (h : pD e = some c) : ∃ k p, e = .Constant c k p := by
 cases e <;> first | exact aW h | skip
 cases Option.some.inj h
 exact ⟨_, _, rfl⟩
theorem vS {c : Const} {b : Bool} (h : td c = some b) : c = .bool b := by cases c <;> first | exact aW h | exact congrArg _ (Option.some.inj h)
theorem Dq {k : Keyword} {x : Str} {d : D} (h : GO k = some (x, d)) : ∃ b k0 p0 p1, d = .bool b ∧ k = ⟨some x, .Constant (.bool b) k0 p0, p1⟩ := by
 obtain ⟨a, v, q⟩ := k
 revert h; refine bE fun y (h1 : a = some y) => ?_
 refine mE fun b h2 h3 => ?_
 revert h2; refine bE fun c h2 h4 => ?_
 obtain ⟨k0, p0, e⟩ := s9 h2
 replace e : v = _ := e
 refine p2 h3 ?_
 exact ⟨b, k0, p0, q, rfl, by rw [h1, e, vS h4]⟩
theorem cT {x : Str} {q : Pos} {as : List Expr} : eval (.Call (.Name x q) as [] p) env = (eval (.Name x q) env >>= fun fv => callWith p fv [] (backTo p (starEach as env)) []) := rfl
theorem jr (He : EvS w h₀ k f ev) (V : SEnv f env) (R : Room k A) {es : List Expr} {kws : List Keyword} {ks : List (Str × D)} {ds : List D} {first : List Value} {a : Addr} (hk : bU w h₀ a) (h : (bB ev es ρ σ).run = some (ds, σ')) (hks : pd kws = some ks) (S : St h₀ C env g μ ρ σ τ s)
  {Q : Value → Shared → Prop} {E : Value → Shared → Prop} (hc : ∀ vs s', PA h₀ C env ρ σ' τ ds vs s' → wpAny (model PW w) A (call (.ref a) (first ++ vs) (ks.map Dp)) Q E s') :
  wpAny (model PW w) A (callWith p (.ref a) first (backTo p (starEach es env)) (backToKw p (keywordEach kws env))) Q E s := by
 have fin : ∀ vs s', PA h₀ C env ρ σ' τ ds vs s' → (∀ b o, h₀.get? b = some o → s'.heap.get? b = some o) ∧ wpAny (model PW w) A (call (.ref a) (first ++ vs) (ks.map Dp)) Q E s' := fun vs s' hp => ⟨(let ⟨g', μ', S', _⟩ := hp; S'.baseK), hc vs s' hp⟩
 rcases kws with _ | ⟨kw, _ | ⟨kw2, r⟩⟩
 ·clear hc; cases hks
  refine callWith_of (P := fun h => ∀ b o, h₀.get? b = some o → h.get? b = some o) ?_ hk (lj He V R h S fun vs s' hp => fin vs s' hp)
  show ((backTo p (starEach es env)).any (·.1) || false) = false
  rw [iw He h]; rfl
 ·clear hc; obtain ⟨⟨nm, kd⟩, hkw, rfl⟩ := Option.map_eq_some_iff.mp hks
  clear hks; obtain ⟨b0, k0, p0, p1, rfl, rfl⟩ := Dq hkw
  refine callWith_of (P := fun h => ∀ b o, h₀.get? b = some o → h.get? b = some o) ?_ hk ?_
  ·show ((backTo p (starEach es env)).any (·.1) || false) = false
   rw [iw He h]; rfl
  ·have e1 := bF (env := env) (cj He h)
   have e2 : backTo p (starEach es env) = es.map fun e => (false, eval e env) := by
    rw [e1]; unfold backTo; rw [List.map_map]; rfl
   rw [e2]
   have hs := iN He V R es h S
   have hkw : ∀ vs s', PA h₀ C env ρ σ' τ ds vs s' → wpAny (model PW w) A (evalAll [do let v ← eval (.Constant (.bool b0) k0 p0) env; standAt p; pure v]) (fun kv s₂ => (∀ b o, h₀.get? b = some o → s₂.heap.get? b = some o) ∧ wpAny (model PW w) A (call (.ref a) (first ++ vs) ([nm].zip kv)) Q E s₂) E s' := fun vs s' hp => by
    rw [evalAll]
    refine wpAny_bind (wpAny_bind (wpAny_Constant_bool (wpAny_bind (wpAny_standAt (wpAny_pure ?_)))))
    refine wpAny_bind (wpAny_holding ?_)
    exact wpAny_pure (wpAny_pure (fin vs s' hp))
   cases es with
   | nil =>
    clear fin hs; cases h
    exact evalArgs_kw_nil rfl (hkw [] s ⟨g, μ, S, trivial⟩)
   | cons e es =>
    rw [List.map_cons] at hs ⊢
    exact evalArgs_kw rfl (wpAny_mono hs (fun vs s' h' => hkw vs s' h') fun _ _ x => x.elim)
 ·exact aW hks
end
end
section
set_option maxRecDepth 4000
section
variable {h₀ : Heap} {C : Cx} {env : Env} {g : PH} {μ : Mu} {ρ ρ' : aj} {σ σ' σ₁ σ₂ : aa} {τ τ' : List (Value × D)} {s : Shared} {w : World} {A : Around} {n k : Nat} {a b v : Value} {da db d r : D} {ds l : List D} {f : Fn} {p q : Pos} {o : aO} {mg mb : Str → Option Value} {ev : cy} {tr : fN} {lk : Option Nat}
theorem iV (HO : OrcOK w h₀ mg mb k o) (He : EvS w h₀ k f ev) (V : SEnv f env) (R : Room k A) {as : List Expr} {lo hi : Int} (hx : f.isG (Mine.S "range") = true) (h : ((bB ev as ρ σ).run = some ([.int hi], σ') ∧ lo = 0) ∨ (bB ev as ρ σ).run = some ([.int lo, .int hi], σ')) (S : St h₀ C env g μ ρ σ τ s)
  {Q : Value → Shared → Prop} {E : Value → Shared → Prop} (hQ : ∀ rr s' t u v, PU h₀ C env ρ σ' τ s' → IsRange s'.heap rr lo hi 1 t u v → Q (.ref rr) s') :
  wpAny (model PW w) A (eval (.Call (.Name (Mine.S "range") q) as [] p) env) Q E s := by
 rw [cT]
 refine wpAny_bind (dv HO.bs S V hx HO.rng ?_)
 rcases h with ⟨h, rfl⟩ | h
 ·refine eg He V R (.inr ⟨_, rfl⟩) h S fun vs s' hp => ?_
  obtain ⟨g', μ', S', hr⟩ := hp
  obtain ⟨v, rfl, hv⟩ := wj hr
  clear hr; obtain ⟨t, rfl⟩ := hv
  refine call_range_1 (hQ _ _ _ _ _ ⟨g', μ', S'.more (fun b o' h => Heap.get?_push_of_some _ h) _⟩ (Heap.get?_push_size _ rfl))
 ·refine eg He V R (.inr ⟨_, rfl⟩) h S fun vs s' hp => ?_
  obtain ⟨g', μ', S', hr⟩ := hp
  obtain ⟨v, u, rfl, hv, hu⟩ := EX hr
  clear hr; obtain ⟨t, rfl⟩ := hv
  obtain ⟨t', rfl⟩ := hu
  refine call_range_2 (hQ _ _ _ _ _ ⟨g', μ', S'.more (fun b o' h => Heap.get?_push_of_some _ h) _⟩ (Heap.get?_push_size _ rfl))
theorem qk (He : EvS w h₀ k f ev) (V : SEnv f env) (R : Room k A) {e : Expr} (S : St h₀ C env g μ ρ σ τ s) (h1 : (ev e ρ σ).run = some (d, σ₁)) (h2 : pb σ₁ d = some (lk, ds, σ')) :
  (∀ x, foldedSetIterable e env x = pure x) ∧ wpAny (model PW w) A (eval e env) (fun x s₁ => wpAny (model PW w) A (pyIter x) (PI w A h₀ C env ρ σ' τ lk ds) be s₁) be s := by
 refine ⟨mq (He.ns h1), He.go h1 V R S fun v s₁ g₁ μ₁ S₁ => ?_⟩
 exact ve R.hd (S₁.sub dk) (S₁.tmp _ (List.mem_cons_self ..)) h2
theorem nf {ds : List D} {a b : Int} (h : jS ds = some (a, b)) : (ds = [.int b] ∧ a = 0) ∨ ds = [.int a, .int b] := by
 rcases ds with _ | ⟨x, _ | ⟨y, _ | ⟨z, r⟩⟩⟩ <;> first | exact aW h | skip
 ·revert h; refine mE fun c h1 h2 => ?_
  refine p2 h2 ?_
  exact .inl ⟨by rw [aH h1], rfl⟩
 ·revert h; refine bE fun c h1 => ?_
  refine mE fun e h3 h4 => ?_
  refine p2 h4 ?_
  exact .inr (by rw [aH h1, aH h3])
theorem sz (HO : cF w h₀ mg mb k o) (He : EvS w h₀ k f ev) (V : SEnv f env) (R : Room k A) (S : St h₀ C env g μ ρ σ τ s) {x : Str} {as : List Expr} {alt : T (Option Nat × List D × aa)} (h : (sA o f ev x as ρ σ alt).run = some (lk, ds, σ')) :
  wpAny (model PW w) A (eval (.Call (.Name x q) as [] p) env) (fun x s₁ => wpAny (model PW w) A (pyIter x) (PI w A h₀ C env ρ σ' τ lk ds) be s₁) be s ∨ alt.run = some (lk, ds, σ') := by
 unfold sA at h
 cases hr : f.isG x && x == Mine.S "range" with
 | true =>
  rw [hr, if_pos rfl] at h
  obtain ⟨hg, hx⟩ := Bool.and_eq_true_iff.mp hr
  clear hr; obtain rfl := eq_of_beq hx
  revert h; refine tP fun as' σ₁ h1 => ?_
  refine lP fun a b h3 => ?_
  refine gE fun _ hok h5 => ?_
  refine r3 h5 ?_
  refine .inl (iV HO.toOrcOK He V R hg (lo := a) (hi := b) ?_ S fun rr s' t u v ⟨g', μ', S'⟩ hr => rN R.hd S' (bp hok) hr)
  clear hok; rcases nf h3 with ⟨rfl, rfl⟩ | rfl
  ·exact .inl ⟨h1, rfl⟩
  ·exact .inr h1
 | false =>
  rw [hr, if_neg Bool.false_ne_true] at h
  cases hr : f.isG x && o.isGen x with
  | true =>
   rw [hr, if_pos rfl] at h
   revert h; refine tP fun as' σ₁ h1 => ?_
   refine lE fun l hl h5 => ?_
   refine r3 h5 ?_
   obtain ⟨a, ha, hk, hJ⟩ := HO.gen _ _ _ hl
   rw [cT]
   refine .inl (wpAny_bind (dv HO.bs S V (Bool.and_eq_true_iff.mp hr).1 ha ?_))
   refine jr (kws := []) He V R hk h1 rfl S fun vs s' hp => ?_
   obtain ⟨g', μ', S', hr⟩ := hp
   exact hJ C env g' μ' ρ _ τ vs A s' R S' hr
  | false =>
   rw [hr, if_neg Bool.false_ne_true] at h
   exact .inr h
theorem gZ (HO : cF w h₀ mg mb k o) (He : EvS w h₀ k f ev) (V : SEnv f env) (R : Room k A) {e : Expr} (S : St h₀ C env g μ ρ σ τ s) (h : (bJ o f ev e ρ σ).run = some (lk, ds, σ')) :
  (∀ x, foldedSetIterable e env x = pure x) ∧ wpAny (model PW w) A (eval e env) (fun x s₁ => wpAny (model PW w) A (pyIter x) (PI w A h₀ C env ρ σ' τ lk ds) be s₁) be s := by
 have plain : ((ev e ρ σ).bind fun (d, σ₁) => T.of (pb σ₁ d)).run = some (lk, ds, σ') → (∀ x, foldedSetIterable e env x = pure x) ∧ wpAny (model PW w) A (eval e env) (fun x s₁ => wpAny (model PW w) A (pyIter x) (PI w A h₀ C env ρ σ' τ lk ds) be s₁) be s := fun h => by
  revert h; refine tP fun d σ₁ h1 h2 => ?_
  exact qk He V R S h1 (Hn h2)
 have hV := dD e
 unfold bJ at h
 generalize view e = v at h hV
 cases hV <;> first | exact plain h | skip
 rcases sz HO He V R S h with h | h
 ·exact ⟨fun _ => rfl, h⟩
 ·exact plain h
theorem uO {vs : List Value} {n : Nat} {a : Int} (hlen : vs.length = n) (h : ∀ (i : Nat) (v : Value), vs[i]? = some v → ∃ t, v = Value.int (a + (i : Int) * 1) t) : RdAll μ g vs ((List.range n).map fun k => D.int (a + (k : Nat))) := by
 induction vs generalizing n a with
 | nil => subst hlen; trivial
 | cons v vs ih =>
  refine q1_ hlen ?_
  rw [List.length_cons, List.range_succ_eq_map, List.map_cons, List.map_map]
  refine ⟨?_, ?_⟩
  ·obtain ⟨t, e⟩ := h 0 v rfl
   exact ⟨t, by rw [e]; simp⟩
  ·have := ih (n := vs.length) (a := a + 1) rfl fun i v hv => by
    obtain ⟨t, e⟩ := h (i + 1) v (by simpa using hv)
    exact ⟨t, by rw [e]; congr 1; push_cast; lia⟩
   refine cast ?_ this
   congr 1
   apply List.map_congr_left
   intro x _
   simp only [Function.comp]
   congr 1
   push_cast
   lia
theorem kW (HO : OrcOK w h₀ mg mb k o) (He : EvS w h₀ k f ev) (V : SEnv f env) (R : Room k A) {bs : List Expr} {hi : Int} {q1 q2 q3 : Pos} (hl : f.isG (Mine.S "list") = true) (hx : f.isG (Mine.S "range") = true) (h : (bB ev bs ρ σ).run = some ([.int hi], σ')) (hok : bM 0 hi = true)
  (S : St h₀ C env g μ ρ σ τ s) : wpAny (model PW w) A (eval (.Call (.Name (Mine.S "list") q1) [.Call (.Name (Mine.S "range") q2) bs [] q3] [] p) env) (PV h₀ C env ρ σ' τ (.lst (bx 0 hi))) be s := by
 rw [cT]
 refine wpAny_bind (dv HO.bs S V hl HO.lst ?_)
 refine PySem.callWith_type rfl ?_
 show wpAny _ _ (evalArgs _ true [(false, eval (.Call (.Name (Mine.S "range") q2) bs [] q3) env)] []) _ _ s
 refine Calls.evalArgs_plain (Calls.spliced_cons ?_)
 refine iV HO He V R hx (.inl ⟨h, rfl⟩) S fun rr s' t u v ⟨g', μ', S'⟩ hr => ?_
 refine Calls.spliced_nil ?_
 show wpAny _ _ (call (.type "list") [.ref rr]) _ _ s'
 have hok' := hok
 unfold bM at hok'
 simp only [decide_eq_true_eq] at hok'
 refine call_list_range (n := (hi - 0).toNat) R.hd hr (iW hok) (rangeSize_nat _ _) (by lia) fun h' tk acc' c' hk ho hit => ?_
 have hn : s'.heap.get? s'.heap.objs.size = none := bg _
 have Sm := S'.more (h' := h') hk tk
 obtain ⟨a1, a2, a3, a4⟩ := S'.fresh hn
 refine Sm.newLst (s₀ := s') ho a1 a3 a4 a2 ?_ ku
 unfold bx
 exact uO (by rw [Array.length_toList]; exact hit.1) fun i v hv => hit.2 i v (by rw [← Array.getElem?_toList]; exact hv)
end
end
section
set_option maxRecDepth 4000
section
variable {h₀ : Heap} {C : Cx} {env : Env} {g : PH} {μ : Mu} {ρ ρ' : aj} {σ σ' σ₁ σ₂ : aa} {τ τ' : List (Value × D)} {s : Shared} {w : World} {A : Around} {n k : Nat} {a b v : Value} {da db d r : D} {ds l : List D} {f : Fn} {p q : Pos} {o : aO} {mg mb : Str → Option Value} {ev : cy} {tr : fN} {lk : Option Nat}
theorem nP {x : Expr} {m : Str} {ap : Pos} {as : List Expr} {kws : List Keyword} (hb : jt (view x) = true) (hl : (ap.endLine == p.line) = true) (hn : as.length ≤ 3) (hs : (backTo p (starEach as env)).all (!·.1) = true)
  (hk : (backToKw p (keywordEach kws env)).all (·.1.isSome) = true) (hkn : kws.length ≤ 1) : eval (.Call (.Attribute x m ap) as kws p) env = (do
   let ov ← eval x env
   standAt ap.atName
   let (f, first) ← holding [ov] (getMethod ov m (do return (← importBound x env).getD true))
   callWith p f first (backTo p (starEach as env)) (backToKw p (keywordEach kws env))) := by
 have e1 : eval (.Call (.Attribute x m ap) as kws p) env = (do
  let ov ← attributeBase x m env (eval x env)
  standAt ap.atName
  methodCall x m ap p env ov (as.length + kws.length) (backTo p (starEach as env)) (backToKw p (keywordEach kws env))) := rfl
 rw [e1, mM hb]
 have hf : methodCallForm (as.length + kws.length) (backTo p (starEach as env)) (backToKw p (keywordEach kws env)) = true := by
  unfold methodCallForm
  rw [hs, hk]
  simp only [Bool.true_and, decide_eq_true_eq]
  split <;> lia
 unfold methodCall
 rw [hf]
 have hp : methodCallPos true x env ap p = pure p := by
  unfold methodCallPos
  rw [hl]
  rfl
 rw [hp]
 simp only [pure_bind]
 rfl
theorem pU {ev : cy} (He : EvS w h₀ k f ev) {es : List Expr} (h : (bB ev es ρ σ).run = some (ds, σ')) : (backTo p (starEach es env)).all (!·.1) = true := by
 rw [bF (cj He h)]
 simp [backTo]
theorem l8 {kws : List Keyword} {ks : List (Str × D)} (h : pd kws = some ks) : (backToKw p (keywordEach kws env)).all (·.1.isSome) = true ∧ kws.length ≤ 1 := by
 rcases kws with _ | ⟨kw, _ | ⟨kw2, r⟩⟩
 ·exact ⟨rfl, Nat.zero_le _⟩
 ·obtain ⟨⟨nm, kd⟩, hkw, rfl⟩ := Option.map_eq_some_iff.mp h
  clear h; obtain ⟨b0, k0, p0, p1, rfl, rfl⟩ := Dq hkw
  exact ⟨rfl, Nat.le_refl _⟩
 ·exact aW h
theorem kU (He : EvS w h₀ k f ev) (V : SEnv f env) (R : Room k A) {x : Expr} {m : Str} {ap : Pos} {as : List Expr} {kws : List Keyword} {ks : List (Str × D)} (hb : jt (view x) = true) (hl : (ap.endLine == p.line) = true) (hn : as.length ≤ 3) (hks : pd kws = some ks)
  (h1 : (ev x ρ σ).run = some (d, σ₁)) (h2 : (bB ev as ρ σ₁).run = some (ds, σ₂)) (S : St h₀ C env g μ ρ σ τ s) {Q : Value → Shared → Prop}
  (hc : ∀ v s₁ g₁ μ₁ pl, St h₀ C env g₁ μ₁ ρ σ₁ ((v, d) :: τ) s₁ → wpAny (model PW w) A (getMethod v m pl) (fun fx s₂ => wpAny (model PW w) A (callWith p fx.1 fx.2 (backTo p (starEach as env)) (backToKw p (keywordEach kws env))) Q be s₂) be s₁) :
  wpAny (model PW w) A (eval (.Call (.Attribute x m ap) as kws p) env) Q be s := by
 obtain ⟨k1, k2⟩ := l8 (p := p) (env := env) hks
 rw [nP hb hl hn (pU He h2) k1 k2]
 refine wpAny_bind (He.go h1 V R S fun v s₁ g₁ μ₁ S₁ => ?_)
 exact wpAny_bind (wpAny_standAt (wpAny_bind (wpAny_holding (wpAny_mono (hc v s₁ g₁ μ₁ _ S₁) (fun fx s₂ h => h) fun _ _ x => x))))
theorem nq (HO : cF w h₀ mg mb k o) (He : EvS w h₀ k f ev) (V : SEnv f env) (R : Room k A) {x : Expr} {m : Str} {ap : Pos} {as : List Expr} {kws : List Keyword} (hb : jt (view x) = true) (hl : (ap.endLine == p.line) = true) (hn : as.length ≤ 3) (h1 : (ev x ρ σ).run = some (d, σ₁))
  (h : (callM o ev d m as kws ρ σ₁).run = some (r, σ')) (S : St h₀ C env g μ ρ σ τ s) : wpAny (model PW w) A (eval (.Call (.Attribute x m ap) as kws p) env) (PV h₀ C env ρ σ' τ r) be s := by
 rw [qB] at h
 unfold kZ at h
 cases hid : ja o σ₁ d m with
 | some id =>
  rw [hid] at h
  revert h; refine lE fun _ hk => ?_
  refine tP fun ds σ₂ h2 h9 => ?_
  obtain rfl : kws = [] := by simpa using bp hk
  refine kU (ks := []) He V R hb hl hn rfl h1 h2 S fun v s₁ g₁ μ₁ pl S₁ => ?_
  refine vq HO.tab S₁ (S₁.tmp _ (List.mem_cons_self ..)) hid ?_
  refine eg He V R (.inl ⟨_, rfl⟩) h2 S₁ fun vs s₂ hp => ?_
  obtain ⟨g₂, μ₂, S₂, hr⟩ := hp
  exact r9 HO.tab S₂ R dk (S₂.tmp _ (List.mem_cons_self ..)) hr (sE h9)
 | none =>
  rw [hid] at h
  cases hb0 : eu d with
  | some t =>
   rw [hb0] at h
   revert h; refine lE fun _ hk => ?_
   refine tP fun ds σ₂ h2 => ?_
   refine bE fun r' hr' e => ?_
   refine r2 e ?_
   obtain rfl : kws = [] := by simpa using bp hk
   clear hid; obtain rfl := eJ hb0
   obtain ⟨id, hM, hC⟩ := HO.bmeth _ _ _ _ hr'
   refine kU (ks := []) He V R hb hl hn rfl h1 h2 S fun v s₁ g₁ μ₁ pl S₁ => ?_
   have hv := S₁.tmp _ (List.mem_cons_self ..)
   subst hv
   refine hM A be s₁ pl _ S₁.baseK ?_
   refine eg He V R (.inl ⟨_, rfl⟩) h2 S₁ fun vs s₂ hp => ?_
   obtain ⟨g₂, μ₂, S₂, hr⟩ := hp
   exact hC C env g₂ μ₂ ρ _ τ vs A s₂ R (S₂.sub dk) hr
  | none =>
   rw [hb0] at h
   revert h; refine lE fun c hc => ?_
   refine tP fun ds σ₂ h2 => ?_
   refine lE fun ks hks h => ?_
   have h := sE h
   obtain ⟨a, hk, hJ, hM⟩ := HO.meth _ _ _ _ _ _ _ h
   revert hc; refine bP fun c' fs hi hc => ?_
   clear h; obtain ⟨_, hf, rfl⟩ := Option.map_eq_some_iff.mp hc
   refine kU He V R hb hl hn hks h1 h2 S fun v s₁ g₁ μ₁ pl S₁ => ?_
   obtain ⟨y, dd, mm, rfl, k1, k2, k3, _⟩ := S₁.inst (S₁.tmp _ (List.mem_cons_self ..)) hi
   refine hM A be s₁ y dd mm pl _ S₁.baseK k1 k2 (k3 m fun p hp e => ?_) ?_
   ·have := List.all_eq_true.mp (bp hf) p hp
    rw [e] at this
    simp at this
   ·refine jr He V R hk h2 hks S₁ fun vs s₂ hp => ?_
    obtain ⟨g₂, μ₂, S₂, hr⟩ := hp
    exact hJ C env g₂ μ₂ ρ τ (.ref y :: vs) A s₂ R (S₂.sub dk) ⟨S₂.tmp _ (List.mem_cons_self ..), hr⟩
end
end
section
set_option maxRecDepth 4000
section
variable {w : World} {h₀ : Heap} {mg mb : Str → Option Value} {k : Nat} {o : aO}
theorem sk {n : Nat} {u : Unit} (h : gd (decide (n ≤ 1000)) = some u) : n ≤ sizeLine := tv (Nat.le_trans (of_decide_eq_true (bp h)) (by decide))
theorem g9 {ev : cy} : ∀ {es : List Expr} {ρ : aj} {σ σ' : aa} {ds : List D}, (bB ev es ρ σ).run = some (ds, σ') → ds.length = es.length
 | [], _, _, _, _, h => by
  cases h; rfl
 | e :: es, ρ, σ, σ', ds, h => by
  revert h; refine tP fun d σ₁ h1 => ?_
  refine tK fun ds' σ₂ h3 h4 => ?_
  refine p2 h4 ?_
  rw [List.length_cons, List.length_cons, g9 h3]
theorem qu {env : Env} {v : Expr} {x : Str} {pos : Pos} (hb : jt (view v) = true) : eval (.Attribute v x pos) env = (do
   let o ← eval v env
   standAt pos.atName
   let r ← holding [o] (getAttr o x true)
   letTemporaryGo v o r
   pure r) := by
 show (do
   let o ← attributeBase v x env (eval v env)
   standAt pos.atName
   let r ← holding [o] (getAttr o x true)
   letTemporaryGo v o r
   pure r) = _
 rw [mM hb]
theorem jv {env : Env} {f : Fn} {ev : cy} {p : Pos} {ρ : aj} {σ σ' : aa} {es : List Expr} {ds : List D} (He : EvS w h₀ k f ev) (h : (bB ev es ρ σ).run = some (ds, σ')) : backTo p (starEach es env) = es.map fun e => (false, eval e env) := by
 rw [bF (env := env) (cj He h)]
 unfold backTo; rw [List.map_map]; rfl
theorem pr {α β : Type} {x : α × β} {a : α} {b : β} (h : some x = some (a, b)) : a = x.1 ∧ b = x.2 := by cases h; exact ⟨rfl, rfl⟩
theorem qy {env : Env} {C : Cx} {g : PH} {μ : Mu} {ρ : aj} {σ : aa} {τ : List (Value × D)} {s : Shared} {A : Around} {c : Const} {d : D} {kd : _} {p : Pos} (h : ta c = some d) (S : St h₀ C env g μ ρ σ τ s) :
  wpAny (model PW w) A (eval (.Constant c kd p) env) (PV h₀ C env ρ σ τ d) be s := by
 cases c <;> first | exact aW h | skip
 ·cases h; exact wpAny_Constant_none (.of (S.put rfl))
 ·cases h; exact wpAny_Constant_bool (S.boolV _ ku)
 ·cases h; exact wpAny_Constant_int (S.int _ _ _ ku)
 ·obtain ⟨_, ha, rfl⟩ := Option.map_eq_some_iff.mp h
  exact wpAny_Constant_str (S.str rfl (bp ha) _ _ ku)
theorem qv {env : Env} {C : Cx} {g : PH} {μ : Mu} {ρ : aj} {σ σ' : aa} {τ : List (Value × D)} {s : Shared} {A : Around} {f : Fn} {ev : cy} {x : Str} {as : List Expr} {d : D} {p q : Pos} (HO : cF w h₀ mg mb k o) (He : EvS w h₀ k f ev) (V : SEnv f env) (R : Room k A) (S : St h₀ C env g μ ρ σ τ s) (hg : f.isG x = true)
  (h : (if x == Mine.S "list" then jX f ev as ρ σ else (bB ev as ρ σ).bind fun (ds, σ₁) => callN o x ds σ₁).run = some (d, σ')) : wpAny (model PW w) A (eval (.Call (.Name x q) as [] p) env) (PV h₀ C env ρ σ' τ d) be s := by
 cases hl : x == Mine.S "list" with
 | true =>
  rw [hl, if_pos rfl] at h
  obtain rfl := eq_of_beq hl
  revert h; refine lE fun _ h1 => ?_
  refine lE fun e he h3 => ?_
  obtain rfl : as = [e] := by
   rcases as with _ | ⟨a, _ | ⟨b, r⟩⟩
   ·exact aW he
   ·clear h1; cases he; rfl
   ·exact absurd (eq_of_beq (bp h1)) (by simp)
  have hV := dD e
  generalize view e = v at h3 hV
  clear h1 he; cases hV <;> first | exact aW h3 | skip
  revert h3; refine lE fun _ hx => ?_
  refine tP fun ds σ₁ h5 => ?_
  refine lE fun d h7 => ?_
  refine lE fun b h9 => ?_
  refine gE fun _ hok h11 => ?_
  refine r2 h11 ?_
  obtain rfl := lQ h7
  clear h7; obtain rfl := aH h9
  obtain ⟨hx1, hx2⟩ := Bool.and_eq_true_iff.mp (bp hx)
  clear hx; obtain rfl := eq_of_beq hx2
  exact kW HO.toOrcOK He V R hg hx1 h5 (bp hok) S
 | false =>
  rw [hl, if_neg Bool.false_ne_true] at h
  revert h; refine tP fun ds σ₁ h1 h2 => ?_
  rw [cT]
  have own : ∀ {a}, LoadB mg mb x (.ref a) → bU w h₀ a → CallJ w h₀ k a ds [] σ₁ d σ' → wpAny (model PW w) A (eval (.Name x q) env >>= fun fv => callWith p fv [] (backTo p (starEach as env)) []) (PV h₀ C env ρ σ' τ d) be s := fun ha hk hJ => by
   refine wpAny_bind (dv HO.bs S V hg ha ?_)
   refine jr (kws := []) He V R hk h1 rfl S fun vs s' ⟨g', μ', S', hr'⟩ => ?_
   exact hJ C env g' μ' ρ τ vs A s' R S' hr'
  unfold callN at h2
  cases hb : bfs.lookup x with
  | some F =>
   rw [hb] at h2
   revert h2; refine bE fun r hr e => ?_
   refine r2 e ?_
   refine wpAny_bind (dv HO.bs S V hg (HO.blt _ _ hb) ?_)
   refine eg He V R F.val_is h1 S fun vs s' ⟨g', μ', S', hr'⟩ => ?_
   exact n0 S' R ku hr' hr hb
  | none =>
   rw [hb] at h2
   have h2 := sE h2
   revert h2; refine oE (fun h3 => ?_) fun h3 => ?_
   ·obtain ⟨a, ha, hk, hJ⟩ := HO.new _ _ _ _ _ h3
    exact own ha hk hJ
   ·obtain ⟨a, ha, hk, hJ⟩ := HO.fn _ _ _ _ _ h3
    exact own ha hk hJ
theorem zr (HO : cF w h₀ mg mb k o) {f : Fn} {ev : cy} {tr : fN} {co : Scope → cy × fN} (He : EvS w h₀ k f ev) (Ht : ud w h₀ k f tr) (Hc : ∀ sc, EvS w h₀ k (ca f sc) (co sc).1 ∧ ud w h₀ k (ca f sc) (co sc).2) : EvS w h₀ k f fun e => Gs o f ev tr co e (view e) := by
 intro e ρ σ d σ' h
 have hV := dD e
 dsimp only at h
 generalize view e = v at h hV
 cases hV <;> first | exact aW h | (refine ⟨rfl, fun C env g μ τ A s V R S => ?_⟩)
 ·-- a constant
  revert h; refine lE fun d' h1 h2 => ?_
  refine r2 h2 ?_
  exact qy h1 S
 ·exact vN HO.bs HO.glob V S h
 ·-- a binary operation
  revert h; refine tP fun a σ₁ h1 => ?_
  refine tP fun b σ₂ h3 => ?_
  refine bE fun r hr h5 => ?_
  obtain ⟨rfl, rfl⟩ := pr (x := jC f _ σ₂ r) h5
  refine wpAny_BinOp (He.go h1 V R S fun v s₁ g₁ μ₁ S₁ => ?_)
  refine He.go h3 V R S₁ fun u s₂ g₂ μ₂ S₂ => ?_
  exact tu S₂ lz (S₂.tmp _ (List.mem_cons_of_mem _ (List.mem_cons_self ..))) (S₂.tmp _ (List.mem_cons_self ..)) hr
 ·-- minus
  revert h; refine tP fun a σ₁ h1 => ?_
  refine lE fun i hi h3 => ?_
  cases h3
  obtain rfl := aH hi
  refine wpAny_UnaryOp (He.int h1 V R S fun t s₁ g₁ μ₁ S₁ => ?_)
  exact PyProof.Rows.neg_int (S₁.int _ _ _ dk)
 ·-- if else
  revert h; refine tP fun c σ₁ h1 h2 => ?_
  refine wpAny_IfExp (wpAny_mono (Ht _ _ _ _ _ h1 C env g μ τ A s V R S) (fun c' s₁ ⟨e1, g₁, μ₁, S₁⟩ => ?_) fun _ _ x => x)
  clear h1; subst e1
  cases c'
  ·exact He.pv h2 V R S₁
  ·exact He.pv h2 V R S₁
 ·exact pM He V R _ h S
 ·-- a comparison
  revert h; refine tP fun a σ₁ h1 => ?_
  refine tP fun b σ₂ h3 => ?_
  refine bE fun c hc h5 => ?_
  refine r2 h5 ?_
  refine wpAny_Compare1 (He.go h1 V R S fun v s₁ g₁ μ₁ S₁ => ?_) (gH (He.ns h3))
  refine He.go h3 V R S₁ fun u s₂ g₂ μ₂ S₂ => ?_
  exact ti S₂ R HO.tab (S₂.tmp _ (List.mem_cons_of_mem _ (List.mem_cons_self ..))) (S₂.tmp _ (List.mem_cons_self ..)) hc fun tk => (S₂.toks tk).boolV _ lz
 ·-- an attribute
  revert h; refine lE fun _ hb => ?_
  refine tP fun a σ₁ h1 => ?_
  refine bE fun r hr h5 => ?_
  refine r2 h5 ?_
  refine Attribute_any_ (He.go h1 V R S fun v s₁ g₁ μ₁ S₁ => ?_) (qu (bp hb))
  exact v6 HO.toOrcOK S₁ dk (S₁.tmp _ (List.mem_cons_self ..)) hr
 ·-- a slice
  revert h; refine tP fun a σ₁ h1 => ?_
  refine tP fun i σ₂ h3 => ?_
  refine tP fun j σ₃ h5 => ?_
  refine bE fun r hr h7 => ?_
  obtain ⟨rfl, rfl⟩ := pr (x := jC f _ σ₃ r) h7
  exact sZ He V R S h1 h3 h5 hr
 ·-- turned round
  revert h; refine tP fun a σ₁ h1 => ?_
  refine tP fun b σ₂ h3 => ?_
  refine lE fun i hi => ?_
  refine lE fun _ hm => ?_
  refine lE fun l hl => ?_
  refine gE fun _ hz h8 => ?_
  obtain rfl := aH hi
  clear hi; obtain rfl := eq_of_beq (bp hm)
  obtain ⟨rfl, rfl⟩ := pr (x := aJ f _ σ₂ l.reverse) h8
  exact zq He V R S h1 h3 hl (of_decide_eq_true (bp hz))
 ·-- an index
  revert h; refine tP fun a σ₁ h1 => ?_
  refine tP fun b σ₂ h3 => ?_
  refine bE fun r hr h5 => ?_
  refine r2 h5 ?_
  refine Subscript_ (He.go h1 V R S fun v s₁ g₁ μ₁ S₁ => ?_)
  refine He.go h3 V R S₁ fun u s₂ g₂ μ₂ S₂ => ?_
  have hu := S₂.tmp _ (List.mem_cons_self ..)
  have hv := S₂.tmp _ (List.mem_cons_of_mem _ (List.mem_cons_self ..))
  revert hr; refine oE (fun h6 => ?_) fun h6 => ?_
  ·revert h6; refine bE fun i hi h7 => ?_
   clear h3; obtain rfl := aH hi
   obtain ⟨t, rfl⟩ := hu
   exact sJ S₂ lz hv h7
  ·revert h6; refine bE fun kk hi => ?_
   refine bE fun t ht => ?_
   refine bE fun tb htb h9 => ?_
   clear h3; obtain rfl := aT hi
   clear h1 S₁; obtain rfl := eJ ht
   obtain ⟨_, t, rfl⟩ := hu
   subst hv
   exact pQ S₂ lz (HO.tab _ _ htb) h9
 ·-- a list
  revert h; refine lE fun _ hz => ?_
  refine tK fun ds σ₁ h1 h2 => ?_
  obtain ⟨rfl, rfl⟩ := pr (x := aJ f _ σ₁ ds) (congrArg some h2)
  refine wpAny_List_spliced ?_
  rw [jv He h1]
  refine wpAny_mono (iN He V R _ h1 S) (fun vs s₁ ⟨g₁, μ₁, S₁, hr⟩ => ?_) fun _ _ x => x.elim
  refine ⟨(hr.length.trans (g9 h1)) ▸ sk hz, ?_⟩
  exact S₁.newL f _ (S₁.more (h' := s₁.heap.push _) (fun b o' h => Heap.get?_push_of_some _ h) s₁.toks) (bg _) (Heap.get?_push_size _ rfl) (by simpa using hr) ku
 ·-- a tuple
  revert h; refine lE fun _ hz => ?_
  refine tK fun ds σ₁ h1 h2 => ?_
  refine p2 h2 ?_
  refine wpAny_Tuple_spliced ?_
  rw [jv He h1]
  refine wpAny_mono (iN He V R _ h1 S) (fun vs s₁ ⟨g₁, μ₁, S₁, hr⟩ => ?_) fun _ _ x => x.elim
  refine ⟨(hr.length.trans (g9 h1)) ▸ sk hz, ?_⟩
  obtain ⟨g', S'⟩ := S₁.tuple hr ku
  exact .of S'
 ·-- a comprehension
  refine lE (fun _ hok h0 => ?_) (sE h)
  revert h0; refine tT fun lk items σ₁ h1 => ?_
  refine gE fun _ hbig => ?_
  refine tP fun ds σ₂ h4 => ?_
  refine lE fun σ₃ hu e => ?_
  refine r2 e ?_
  obtain ⟨hok1, hok2⟩ := Bool.and_eq_true_iff.mp (bp hok)
  obtain ⟨hf, hi⟩ := gZ HO He V R S h1
  rw [eval_ListComp]
  refine j9 S V hok1 hok2 R (Hc _).1 (Hc _).2 hi hf (of_decide_eq_true (bp hbig)) h4 hu fun acc L s' hp => ?_
  have hp' := hp
  obtain ⟨_, _, _, _, m, hm⟩ := hp'
  exact ⟨m, hm, fun h' hs => hp.done hs⟩
 ·-- a call
  revert h; refine lE fun _ hg h0 => ?_
  exact qv HO He V R S (bp hg) h0
 ·-- a method
  revert h; refine lE fun _ hok => ?_
  refine tP fun d₁ σ₁ h1 h2 => ?_
  have hok := bp hok
  simp only [Bool.and_eq_true, decide_eq_true_eq] at hok
  exact nq HO He V R hok.1.1 hok.1.2 hok.2 h1 h2 S
theorem xk (HO : cF w h₀ mg mb k o) {f : Fn} {ev : cy} {tr : fN} (He : EvS w h₀ k f ev) (Ht : ud w h₀ k f tr) : ud w h₀ k f fun e => GF o ev tr e (view e) := by
 intro e ρ σ d σ' h C env g μ τ A s V R S
 have plain : (isTrue e env (eval e env) = do let v ← eval e env; standAt e.pos; holding [v] (truthy v)) → ((ev e ρ σ).bind fun (d, σ₁) => T.look .b (oj d) fun b => T.ret (b, σ₁)).run = some (d, σ') → wpAny (model PW w) A (isTrue e env (eval e env)) (fun c s' => c = d ∧ PU h₀ C env ρ σ' τ s') be s := fun hp h => by
  revert h; refine tP fun a σ₁ h1 => ?_
  refine bE fun c hc e => ?_
  refine r2 e ?_
  refine isTrue_plain (He.go h1 V R S fun v s₁ g₁ μ₁ S₁ => ?_) hp
  exact ly (S₁.tmp _ (List.mem_cons_self ..)) hc ⟨rfl, g₁, μ₁, S₁.sub dk⟩
 have hV := dD e
 dsimp only at h
 generalize view e = v at h hV
 cases hV <;> first | exact aW h | exact plain rfl h | skip
 ·revert h; refine tK fun c σ₁ h1 h2 => ?_
  refine p2 h2 ?_
  exact wpAny_isTrue_Not (wpAny_mono (Ht _ _ _ _ _ h1 C env g μ τ A s V R S) (fun c s₁ ⟨e1, hp⟩ => ⟨by rw [e1], hp⟩) fun _ _ x => x)
 ·exact wpAny_isTrue_BoolOp (lm Ht V R (.inl ⟨rfl, rfl⟩) _ h S)
 ·exact wpAny_isTrue_BoolOp (lm Ht V R (.inr ⟨rfl, rfl⟩) _ h S)
 ·revert h; refine tP fun a σ₁ h1 => ?_
  refine tP fun b σ₂ h3 => ?_
  refine bE fun c hc h5 => ?_
  refine r2 h5 ?_
  refine wpAny_isTrue_Compare1 (He.go h1 V R S fun v s₁ g₁ μ₁ S₁ => ?_) (gH (He.ns h3))
  refine He.go h3 V R S₁ fun u s₂ g₂ μ₂ S₂ => ?_
  exact ti S₂ R HO.tab (S₂.tmp _ (List.mem_cons_of_mem _ (List.mem_cons_self ..))) (S₂.tmp _ (List.mem_cons_self ..)) hc fun tk => wpAny_truthy_bool ⟨rfl, g₂, μ₂, (S₂.toks tk).sub lz⟩
theorem cn (HO : cF w h₀ mg mb k o) : ∀ (n : Nat) (f : Fn), EvS w h₀ k f (aD o n f).1 ∧ ud w h₀ k f (aD o n f).2
 | 0, f => ⟨fun e ρ σ d σ' h => (nomatch h), fun e ρ σ d σ' h => (nomatch h)⟩
 | n + 1, f =>
  have ih := cn HO n f
  ⟨zr HO ih.1 ih.2 fun sc => cn HO n (ca f sc), xk HO ih.1 ih.2⟩
end
end
section
set_option maxRecDepth 4000
section
variable {prog : Program} {w : World} {A : Around} {E : Value → Shared → Prop} {s : Shared}
theorem iR {l : Addr} {items : Array Value} {n : Nat} {k : Int} {t : Tok} {v : Value} {Q : Unit → Shared → Prop} (ho : s.heap.get? l = some (ao items n))
  (h0 : 0 ≤ k) (hfit : k < 2 ^ 63) (hn : k < items.size)
  (hQ : ∀ h' n', h'.get? l = some (ao (items.setIfInBounds k.toNat v) n') → Heap.SameBut l s.heap h' → Q () { s with heap := h' }) :
  wpAny (model prog w) A (setItem (.ref l) (.int k t) v) Q E s := by
 have hl : s.heap.IsList l items := ⟨_, ho, rfl, n, rfl⟩
 unfold setItem
 try with_reducible refine wpAny_holding ?_
 first | refine wpAny_bind (wpAny_pure ?_) | skip
 refine wpAny_bind (wpAny_sequenceKey hl.typeIs (by decide) ?_)
 refine wpAny_bind (wpAny_callSpecial?_slot (name := Str.ofString "__setitem__") hl.typeIs slot_list_setitem
  (wpAny_call_entry slot_list_setitem hl.typeIs entry_list_setitem ?_ (args_list_setitem _ _ _)))
 show wpAny _ _ (Builtin.List.listSubscript? (.int k t) >>= _) _ _ s
 refine wpAny_bind (wpAny_listSubscript_int (fitsIndex_of h0 hfit) ?_)
 clear hfit
 obtain ⟨j, rfl⟩ := Int.eq_ofNat_of_zero_le h0
 have hj : j < items.size := by lia
 have hx' : items[j]? = some items[j] := Array.getElem?_eq_getElem hj
 show wpAny _ _ ((seqItemAt l j >>= fun r => pure (r.map (j, ·))) >>= _) _ _ s
 refine wpAny_bind (wpAny_bind (wpAny_seqItemAt ho rfl (wpAny_pure ?_)))
 rw [hx']
 show wpAny _ _ (setSeqItemAt l j v >>= _) _ _ s
 obtain ⟨n', hd'⟩ := Obj.data_mapSeq (o := ao items n) rfl (·.setIfInBounds j v)
 have hob : Obj.mapSeq (·.setIfInBounds j v) (ao items n) = ao (items.setIfInBounds j v) n' := by
  rw [show Obj.mapSeq (·.setIfInBounds j v) (ao items n) = { ao items n with data := (Obj.mapSeq (·.setIfInBounds j v) (ao items n)).data } from rfl, hd']
 have hfin : (s.heap.update l (Obj.mapSeq (·.setIfInBounds j v))).get? l = some (ao (items.setIfInBounds j v) n') := by
  rw [← hob]
  exact Heap.get?_update_self _ ho (Obj.isFreed_of_seq hd')
 refine wpAny_bind (wpAny_setSeqItemAt ho rfl ?_)
 first
  | exact wpAny_bind (wpAny_pure (wpAny_pure ⟨.none, rfl, wpAny_pure (hQ _ _ hfin (Heap.SameBut.update ..))⟩))
  | exact wpAny_pure ⟨.none, rfl, wpAny_pure (hQ _ _ hfin (Heap.SameBut.update ..))⟩
theorem qE {x y n : Nat} (hx : x ≤ y) (hy : y ≤ n) : sliceBounds (some (x : Int)) (some (y : Int)) none n = ((x : Int), (y : Int), 1) := by
 unfold sliceBounds
 simp only [Option.getD_none]
 have h1 : ¬ ((x : Int) < 0) := by lia
 have h2 : ¬ ((y : Int) < 0) := by lia
 simp only [h1, h2, if_false, show (1 : Int) > 0 by decide, if_true]
 congr 1
 ·lia
 ·congr 1; lia
theorem lG {l l2 sl : Addr} {items ws : Array Value} {n n2 : Nat} {x y : Nat} {t u : Tok} {Q : Unit → Shared → Prop} (ho : s.heap.get? l = some (ao items n)) (ho2 : s.heap.get? l2 = some (ao ws n2)) (hne : l ≠ l2)
  (hs : s.heap.IsSliceOf sl (.int x t) (.int y u) .none) (hx : x ≤ y) (hy : y ≤ items.size) (hz : items.size + ws.size ≤ sizeLine)
  (hQ : ∀ h' n', h'.get? l = some (ao (items.extract 0 x ++ ws ++ items.extract y items.size) n') → Heap.SameBut l s.heap h' → Q () { s with heap := h' }) :
  wpAny (model prog w) A (setItem (.ref l) (.ref sl) (.ref l2)) Q E s := by
 have hl : s.heap.IsList l items := ⟨_, ho, rfl, n, rfl⟩
 obtain ⟨os, hos, hcs, hds⟩ := id hs
 have hTs : s.TypeIs (.ref sl) "slice" := ⟨os, hos, hcs⟩
 unfold setItem
 try with_reducible refine wpAny_holding ?_
 first | refine wpAny_bind (wpAny_pure ?_) | skip
 refine wpAny_bind (wpAny_sequenceKey hl.typeIs (by decide) ?_)
 refine wpAny_bind (wpAny_callSpecial?_slot (name := Str.ofString "__setitem__") hl.typeIs slot_list_setitem
  (wpAny_call_entry slot_list_setitem hl.typeIs entry_list_setitem ?_ (args_list_setitem _ _ _)))
 show wpAny _ _ (Builtin.List.listSubscript? (.ref sl) >>= _) _ _ s
 refine wpAny_bind ?_
 unfold Builtin.List.listSubscript?
 refine wpAny_bind (wpAny_specialOf hTs slice_no_index ?_)
 rw [if_pos (c := Option.isNone (none : Option Value) = true) rfl]
 refine wpAny_pure ?_
 show wpAny _ _ (typeOf (.ref sl) >>= _) _ _ s
 refine wpAny_bind (wpAny_typeOf hTs ?_)
 rw [if_neg (by decide)]
 rw [listSliceParts_eq]
 refine wpAny_bind (wpAny_bind (wpAny_field hos hds (x := .none) rfl (wpAny_bind (wpAny_listPart .none ?_))))
 rw [if_neg (by decide)]
 refine wpAny_bind (wpAny_field hos hds (x := .int x t) rfl (wpAny_bind (wpAny_listPart (.int x t) ?_)))
 refine wpAny_bind (wpAny_field hos hds (x := .int y u) rfl (wpAny_bind (wpAny_listPart (.int y u) (wpAny_pure ?_))))
 have hsame : Builtin.List.listSameRef (.ref l) (.ref l2) = false := by simpa [Builtin.List.listSameRef] using hne
 dsimp only
 rw [hsame, if_neg Bool.false_ne_true]
 have hT2 : s.TypeIs (.ref l2) "list" := ⟨_, ho2, rfl⟩
 unfold Builtin.List.listAllItems
 refine wpAny_bind (wpAny_bind (wpAny_typeOf hT2 ?_))
 rw [if_pos (by decide)]
 refine listItems_at ho2 rfl ?_
 refine wpAny_bind (listItems_at ho rfl ?_)
 refine wpAny_bind (wpAny_of_eq (sliceIndices_raw (some (x : Int)) (some (y : Int)) none items.size (by simp)) ?_)
 rw [qE hx hy]
 rw [if_pos (by rfl)]
 refine wpAny_bind (wpAny_rule ?_)
 have htl : Builtin.List.listTooLong (items.size + ws.size) = false := by simpa [Builtin.List.listTooLong] using hz
 rw [htl, if_neg Bool.false_ne_true]
 have hmx : (max (x : Int) (y : Int)).toNat = y := by lia
 rw [hmx, Int.toNat_natCast]
 obtain ⟨n', hd'⟩ := Obj.data_mapSeq (o := ao items n) rfl (fun xs => xs.extract 0 x ++ ws ++ xs.extract y)
 have hob : Obj.mapSeq (fun xs => xs.extract 0 x ++ ws ++ xs.extract y) (ao items n) = ao (items.extract 0 x ++ ws ++ items.extract y) n' := by
  rw [show Obj.mapSeq (fun xs => xs.extract 0 x ++ ws ++ xs.extract y) (ao items n) = { ao items n with data := (Obj.mapSeq (fun xs => xs.extract 0 x ++ ws ++ xs.extract y) (ao items n)).data } from rfl, hd']
 have hfin : (s.heap.update l (Obj.mapSeq (fun xs => xs.extract 0 x ++ ws ++ xs.extract y))).get? l = some (ao (items.extract 0 x ++ ws ++ items.extract y) n') := by
  rw [← hob]
  exact Heap.get?_update_self _ ho (Obj.isFreed_of_seq hd')
 refine wpAny_bind (m := Builtin.List.listUpdate (.ref l) _) (wpAny_updateSeq ho rfl ?_ (by lia) ?_)
 ·refine wpAny_bind (wpAny_letGo ?_)
  exact wpAny_pure ⟨.none, rfl, wpAny_pure (hQ _ _ hfin (Heap.SameBut.update ..))⟩
 ·simp only [Array.size_append, Array.size_extract]
  lia
end
end
section
set_option maxRecDepth 4000
section
variable {h₀ : Heap} {C : Cx} {env : Env} {g : PH} {μ : Mu} {ρ ρ' : aj} {σ σ' σ₁ σ₂ : aa} {τ τ' : List (Value × D)} {s : Shared} {w : World} {A : Around} {n k : Nat} {a b v : Value} {da db d r : D} {ds l : List D} {f : Fn} {p q : Pos} {o : aO} {mg mb : Str → Option Value} {ev : cy} {tr : fN} {lk : Option Nat}
theorem RdFs.app {m : Str → Option Value} : ∀ {fs gs : List (Str × D)}, RdFs μ g m fs → RdFs μ g m gs → RdFs μ g m (fs ++ gs)
 | [], gs, _, h => h
 | (x, d) :: r, gs, h, h' => by
  simp only [List.cons_append] at h ⊢
  exact ⟨h.1, RdFs.app h.2 h'⟩
theorem RdFs.setF {m : Str → Option Value} {fs : List (Str × D)} {x : Str} {v : Value} (h : RdFs μ g m fs) (hv : Rd μ g v d) : RdFs μ g (fun y => if y = x then some v else m y) (setF fs x d) := by
 have hmap : ∀ fs : List (Str × D), RdFs μ g m fs → RdFs μ g (fun y => if y = x then some v else m y) (fs.map fun p => if p.1 == x then (x, d) else p) := by
  intro fs
  induction fs with
  | nil => intro _; trivial
  | cons p r ih =>
   obtain ⟨y, e⟩ := p
   intro h
   rw [List.map_cons]
   by_cases hy : y = x
   ·refine q2_ hy ?_
    simp only [beq_self_eq_true, if_true]
    exact ⟨⟨v, if_pos rfl, hv⟩, ih h.2⟩
   ·have hb : (y == x) = false := by simpa using hy
    simp only [hb, Bool.false_eq_true, if_false]
    obtain ⟨⟨u, h1, h2⟩, h3⟩ := h
    exact ⟨⟨u, (if_neg hy).trans h1, h2⟩, ih h3⟩
 have hsame : ∀ fs : List (Str × D), fs.lookup x = none → RdFs μ g m fs → RdFs μ g (fun y => if y = x then some v else m y) fs := by
  intro fs
  induction fs with
  | nil => intro _ _; trivial
  | cons p r ih =>
   obtain ⟨y, e⟩ := p
   intro hl h
   rw [List.lookup_cons] at hl
   by_cases hy : x = y
   ·clear h; subst hy; simp at hl
   ·have hb : (x == y) = false := by simpa using hy
    simp only [hb] at hl
    obtain ⟨⟨u, h1, h2⟩, h3⟩ := h
    exact ⟨⟨u, (if_neg (Ne.symm hy)).trans h1, h2⟩, ih hl h3⟩
 unfold Mine.setF
 split
 ·exact hmap fs h
 ·rename_i hn
  have hn : fs.lookup x = none := by
   cases e : fs.lookup x with
   | none => rfl
   | some y => rw [e] at hn; exact absurd rfl hn
  refine (hsame fs hn h).app ?_
  exact ⟨⟨v, by simp, hv⟩, trivial⟩
theorem pZ {fs : List (Str × D)} {x y : Str} (h : ∀ p ∈ setF fs x d, p.1 ≠ y) : y ≠ x ∧ ∀ p ∈ fs, p.1 ≠ y := by
 unfold setF at h
 split at h
 ·rename_i hx
  obtain ⟨e, he⟩ := Option.isSome_iff_exists.mp hx
  have hm := bh he
  have hx' : y ≠ x := fun e' => by
   clear hx he; subst e'
   exact h (y, d) (List.mem_map.mpr ⟨_, hm, by simp⟩) rfl
  refine ⟨hx', fun p hp e' => ?_⟩
  have : (p.1 == x) = false := by rw [e']; simpa using hx'
  exact h p (List.mem_map.mpr ⟨p, hp, by simp [this]⟩) e'
 ·refine ⟨fun e' => h (x, d) (by simp) e'.symm, fun p hp => h p (List.mem_append_left _ hp)⟩
theorem pT (HO : OrcOK w h₀ mg mb k o) (He : EvS w h₀ k f ev) (V : SEnv f env) (R : Room k A) (S : St h₀ C env g μ ρ σ ((v, d) :: τ) s) {t : Expr} (h : (mZ o f ev t d ρ σ).run = some (ρ', σ')) :
  wpAny (model PW w) A (assign t env v) (fun _ s' => PU h₀ C env ρ' σ' ((v, d) :: τ) s') be s := by
 have hv := S.tmp _ (List.mem_cons_self ..)
 have bd : (T.lb (ct f t d ρ) fun ρ' => T.ret (ρ', σ)).run = some (ρ', σ') → wpAny (model PW w) A (assign t env v) (fun _ s' => PU h₀ C env ρ' σ' ((v, d) :: τ) s') be s := fun h => by
  revert h; refine lE fun ρ₁ h1 e => ?_
  refine r2 e ?_
  exact wpAny_mono (gF R V _ d h1 hv S) (fun _ s' S' => ⟨g, μ, S'⟩) fun _ _ x => x
 have hT := kr t
 unfold mZ at h
 generalize qO t = tg at h hT
 cases hT <;> first | exact aW h | exact bd h | skip
 ·-- a slice
  revert h; refine tP fun p1 σ₁ h1 => ?_
  refine lE fun i hp => ?_
  refine tP fun p2 σ₂ h2 => ?_
  refine lE fun x hx => ?_
  refine tP fun p3 σ₃ h3 => ?_
  refine lE fun y hy => ?_
  refine lE fun l hi => ?_
  refine lE fun r hr0 => ?_
  refine gE fun _ hb h => ?_
  refine r2 h ?_
  obtain rfl := cB hp
  obtain rfl := aH hx
  obtain rfl := aH hy
  clear hv bd; obtain rfl := ek hr0
  have hi := bY hi
  obtain ⟨b1, b2, b3, b4⟩ := of_decide_eq_true (bp hb)
  rw [assign_Subscript]
  refine wpAny_bind (wpAny_holding (He.go h1 V R S fun ov s₁ g₁ μ₁ S₁ => ?_))
  refine wpAny_bind (wpAny_holding (wpAny_Slice ?_))
  rw [evalPart_some]
  refine He.int h2 V R S₁ fun t s₂ g₂ μ₂ S₂ => ?_
  rw [evalPart_some]
  refine He.int h3 V R S₂ fun u s₃ g₃ μ₃ S₃ => ?_
  rw [evalPart_none]
  refine wpAny_pure ?_
  have hov := S₃.tmp _ (List.mem_cons_of_mem _ (List.mem_cons_of_mem _ (List.mem_cons_self ..)))
  have hd := S₃.tmp _ (List.mem_cons_of_mem _ (List.mem_cons_of_mem _ (List.mem_cons_of_mem _ (List.mem_cons_self ..))))
  clear S₁; obtain ⟨m, vs, n, rfl, hm, c5, c6, e1⟩ := S₃.ptrAt hov hi
  obtain ⟨l2, ws, n2, rfl, hg2, hr2⟩ := hd
  clear hb h h2 hx; obtain ⟨x', rfl⟩ := Int.eq_ofNat_of_zero_le b1
  obtain ⟨y', rfl⟩ := Int.eq_ofNat_of_zero_le (Int.le_trans b1 b2)
  have e2 := hr2.length
  rw [Array.length_toList] at e2
  have c3 : g₃ m = none := by
   have k1 := S₃.stoAt hi hm
   exact k1.e3
  have S₄ := S₃.more (h' := s₃.heap.push { cls := .type "slice", data := .fields #[.int x' t, .int y' u, .none] }) (fun b o' h => Heap.get?_push_of_some _ h) s₃.toks
  refine wpAny_bind (wpAny_standAt (wpAny_bind (wpAny_holding ?_)))
  refine lG (l := m) (l2 := l2) (Heap.get?_push_of_some _ c5) (S₄.imm _ _ hg2) (by rintro rfl; rw [c3] at hg2; cases hg2) (Heap.IsSliceOf.new ..) (by lia) (by lia) (tv (by lia)) fun h' n' ho hs => ?_
  refine wpAny_release ?_
  have hrd : RdAll μ₃ g₃ (vs.extract 0 x' ++ ws ++ vs.extract y' vs.size).toList (l.take x' ++ r ++ l.drop y') := by
   rw [Array.toList_append, Array.toList_append, Array.toList_extract, Array.toList_extract]
   refine ((?_ : RdAll μ₃ g₃ _ _).append hr2).append ?_
   ·have := c6.take x'
    simpa [List.extract] using this
   ·have := c6.drop y'
    simp only [List.extract]
    rw [List.take_of_length_le (by simp)]
    exact this
  exact ⟨g₃, μ₃, (S₄.setLst hi hm hs.extBut ho hrd s₃.toks).sub fun _ hq => List.mem_cons_of_mem _ (List.mem_cons_of_mem _ (List.mem_cons_of_mem _ hq))⟩
 ·-- a place
  revert h; refine tP fun p1 σ₁ h1 => ?_
  refine lE fun j hp => ?_
  refine tP fun p2 σ₂ h2 => ?_
  refine lE fun x hx => ?_
  refine Hu fun l hi => ?_
  refine gE fun _ hb h => ?_
  refine r2 h ?_
  obtain rfl := cB hp
  obtain rfl := aH hx
  have hi := bY hi
  obtain ⟨b1, b2, b3⟩ := of_decide_eq_true (bp hb)
  rw [assign_Subscript]
  refine wpAny_bind (wpAny_holding (He.go h1 V R S fun ov s₁ g₁ μ₁ S₁ => ?_))
  refine wpAny_bind (wpAny_holding (He.int h2 V R S₁ fun t s₂ g₂ μ₂ S₂ => ?_))
  have hov := S₂.tmp _ (List.mem_cons_of_mem _ (List.mem_cons_self ..))
  have hd := S₂.tmp _ (List.mem_cons_of_mem _ (List.mem_cons_of_mem _ (List.mem_cons_self ..)))
  clear S₁; obtain ⟨m, vs, n, rfl, hm, c5, c6, e1⟩ := S₂.ptrAt hov hi
  refine wpAny_bind (wpAny_standAt (wpAny_bind (wpAny_holding ?_)))
  refine iR c5 b1 (by lia) (by lia) fun h' n' ho hs => ?_
  refine wpAny_release ?_
  have hrd : RdAll μ₂ g₂ (vs.setIfInBounds x.toNat v).toList (l.set x.toNat d) := by
   rw [Array.toList_setIfInBounds]
   exact c6.set hd _
  exact ⟨g₂, μ₂, (S₂.setLst hi hm hs.extBut ho hrd s₂.toks).sub lz⟩
 ·-- an attribute
  revert h; refine tP fun p1 σ₁ h1 => ?_
  refine lE fun j hp => ?_
  refine lP fun c fs hi => ?_
  refine lE fun _ hb h => ?_
  refine r2 h ?_
  obtain rfl := cB hp
  have hi := pj hi
  obtain ⟨hf, hz⟩ := Bool.and_eq_true_iff.mp (bp hb)
  rw [assign_Attribute]
  refine wpAny_bind (wpAny_holding (He.go h1 V R S fun ov s₁ g₁ μ₁ S₁ => ?_))
  have hov := S₁.tmp _ (List.mem_cons_self ..)
  have hd := S₁.tmp _ (List.mem_cons_of_mem _ (List.mem_cons_self ..))
  obtain ⟨ax, m, hm, rfl⟩ := hov
  have k1 := S₁.stoAt hi hm
  obtain ⟨c1, c2, c3, c4, mm, c5, c6, c7⟩ := k1
  refine wpAny_bind (wpAny_standAt (wpAny_bind (wpAny_holding ?_)))
  refine HO.fldS c _ hf A be s₁ ax m mm v (fs.map (·.1)) _ S₁.baseK (c4.mono S₁.imm) c5 (fun y hy => Classical.byContradiction fun hc => hy (c6 y fun p hp e => hc (List.mem_map.mpr ⟨p, hp, e⟩))) (by simpa using hz) fun h' t hn hs => ?_
  refine wpAny_release ?_
  refine ⟨g₁, μ₁, (S₁.turn (so' := .inst c (setF fs _ d)) hi trivial hm hs ⟨c1, c2, c3, c4, _, hn, fun y hy => ?_, c7.setF hd⟩ t).sub dk⟩
  obtain ⟨d1, d2⟩ := pZ hy
  show (if y = _ then _ else mm y) = none
  rw [if_neg d1]
  exact c6 y d2
theorem dY (HO : OrcOK w h₀ mg mb k o) (He : EvS w h₀ k f ev) (V : SEnv f env) (R : Room k A) : ∀ (ts : List Expr) {ρ ρ' : aj} {σ σ' : aa} {g : PH} {μ : Mu} {s : Shared}, (dZ o f ev ts d ρ σ).run = some (ρ', σ') → St h₀ C env g μ ρ σ ((v, d) :: τ) s →
  wpAny (model PW w) A (assignAll v ((assignEach ts env).map (·.2))) (fun _ s' => PU h₀ C env ρ' σ' ((v, d) :: τ) s') be s
 | [], ρ, ρ', σ, σ', g, μ, s, h, S => by
  refine r2 h ?_
  exact wpAny_pure ⟨g, μ, S⟩
 | t :: ts, ρ, ρ', σ, σ', g, μ, s, h, S => by
  revert h; refine tP fun ρ₁ σ₁ h1 h => ?_
  have hh := pT HO He V R S h1
  have e1 : (assignEach (t :: ts) env).map (·.2) = assign t env :: (assignEach ts env).map (·.2) := by
   clear hh; cases t <;> first | rfl | exact aW h1
  rw [e1]
  have ih := fun g' μ' s' (S' : St h₀ C env g' μ' ρ₁ σ₁ ((v, d) :: τ) s') => dY HO He V R ts h S'
  cases ts with
  | nil =>
   refine r2 h ?_
   exact hh
  | cons t' ts' =>
   have e2 : ∃ y ys, (assignEach (t' :: ts') env).map (·.2) = y :: ys := by
    clear h e1 ih; cases t' <;> exact ⟨_, _, rfl⟩
   obtain ⟨y, ys, e2⟩ := e2
   rw [e2] at ih ⊢
   show wpAny _ _ (holding [v] (assign t env v) >>= fun _ => assignAll v (y :: ys)) _ _ s
   exact wpAny_bind (wpAny_holding (wpAny_mono hh (fun _ s' ⟨g', μ', S'⟩ => ih g' μ' s' S') fun _ _ x => x))
end
end
section
set_option maxRecDepth 4000
section
variable {h₀ : Heap} {C : Cx} {env : Env} {g : PH} {μ : Mu} {ρ ρ' : aj} {σ σ' σ₁ σ₂ : aa} {τ τ' : List (Value × D)} {s : Shared} {w : World} {A : Around} {n k : Nat} {a b v : Value} {da db d r : D} {ds l : List D} {f : Fn} {p q : Pos} {o : aO} {mg mb : Str → Option Value} {ev : cy} {tr : fN} {lk : Option Nat}
inductive NamesIn (env : Env) : List Expr → List Str → Prop
 | nil : NamesIn env [] []
 | cons {x : Str} {p : Pos} {es : List Expr} {xs : List Str} : env.kindOf x = some .local → NamesIn env es xs → NamesIn env (.Name x p :: es) (x :: xs)
theorem i9 {F : Expr → Option Str} (hF : ∀ e x, F e = some x → ∃ p, e = .Name x p ∧ env.kindOf x = some .local) : ∀ (us : List Expr), (us.filterMap F).length = us.length → NamesIn env us (us.filterMap F)
 | [], _ => .nil
 | u :: us, h => by
  cases e : F u with
  | none =>
   rw [List.filterMap_cons_none e] at h
   have := List.length_filterMap_le F us
   simp only [List.length_cons] at h
   lia
  | some x =>
   rw [List.filterMap_cons_some e] at h ⊢
   obtain ⟨p, rfl, hk⟩ := hF _ _ e
   exact .cons hk (i9 hF us (by simpa using h))
theorem NamesIn.names {us : List Expr} {xs : List Str} (h : NamesIn env us xs) : oV us = xs := by
 induction h with
 | nil => rfl
 | cons _ _ ih => exact congrArg (List.cons _) ih
noncomputable def EM {α : Type} (b1 b2 b3 b4 b5 : Bool) (A X N : α) : α := if b1 = true then A else if b2 = true then A else if b3 = true then A else if b4 = true then A else if b5 = true then X else N
theorem EL {α : Type} {b1 b2 b3 b4 b5 : Bool} {A X N : α} (h : (b4 || !b5) = true) : EM b1 b2 b3 b4 b5 A X N = A ∨ (b3 = false ∧ EM b1 b2 b3 b4 b5 A X N = N) := by
 cases b1
 ·cases b2
  ·cases b3
   ·cases b4
    ·cases b5
     ·exact .inr ⟨rfl, rfl⟩
     ·exact eY h
    ·exact .inl rfl
   ·exact .inl rfl
  ·exact .inl rfl
 ·exact .inl rfl
theorem xq (us : List Expr) (k : _) (p : Pos) (vs : List Expr) (k' : _) (p' : Pos) : ∃ (b1 b2 : Bool) (F : Expr → Option Str) (X : Sem (Option (List Str))), (∀ e x, F e = some x → ∃ p, e = .Name x p ∧ env.kindOf x = some .local) ∧
  swappedStores [.Tuple us k p] (.Tuple vs k' p') env = EM b1 b2 ((us.filterMap F).length != us.length || (us.filterMap F).eraseDups.length != (us.filterMap F).length) (vs.all (foldedForSure 8)) (vs.all (constantsAlone 8)) (pure none) X (pure (some (us.filterMap F))) := by
 refine ⟨_, _, _, _, ?_, rfl⟩
 intro e x h
 cases e <;> first | (cases h; done) | skip
 obtain ⟨hc, h⟩ := Option.ite_none_right_eq_some.mp h
 refine ox_ h ?_
 exact ⟨_, rfl, eq_of_beq (Bool.and_eq_true_iff.mp hc).1⟩
theorem Bm {ts : List Expr} {e : Expr} (hok : oR ts e = true) (hn : ¬∃ us k p vs k' p', ts = [.Tuple us k p] ∧ e = .Tuple vs k' p') : swappedStores ts e env = pure none := by
 match ts with
 | [] => rfl
 | t :: _ :: _ => clear hok hn; cases t <;> rfl
 | [t] =>
  revert hok hn
  cases t with
  | Tuple => cases e <;> intro hok hn <;> first | rfl | exact absurd ⟨_, _, _, _, _, _, rfl, rfl⟩ hn
  | List => intro hok; cases hok
  | _ => exact fun _ _ => rfl
theorem jA {ts : List Expr} {e : Expr} (hok : oR ts e = true) : swappedStores ts e env = pure none ∨
  ∃ us k p vs k' p' xs, ts = [.Tuple us k p] ∧ e = .Tuple vs k' p' ∧ swappedStores ts e env = pure (some xs) ∧ NamesIn env us xs ∧ xs.Nodup := by
 by_cases hsh : ∃ us k p vs k' p', ts = [.Tuple us k p] ∧ e = .Tuple vs k' p'
 ·obtain ⟨us, k, p, vs, k', p', rfl, rfl⟩ := hsh
  have hok : rV us vs = true := hok
  obtain ⟨hnd, hfix⟩ := Bool.and_eq_true_iff.mp hok
  obtain ⟨b1, b2, F, X, hF, e⟩ := xq (env := env) us k p vs k' p'
  refine (EL hfix).imp e.trans fun ⟨h3, h⟩ => ?_
  have hN := i9 hF us (bne_eq_false_iff_eq.mp (Bool.or_eq_false_iff.mp h3).1)
  exact ⟨us, k, p, vs, k', p', _, rfl, rfl, e.trans h, hN, hN.names ▸ of_decide_eq_true hnd⟩
 ·exact .inl (Bm hok hsh)
noncomputable def aS (ρ : aj) (l : List (Str × D)) : aj := l.foldl (fun ρ p => cq ρ p.1 p.2) ρ
theorem jP : ∀ {ρ : aj} {x : Str} {d : D}, (cq ρ x d).lookup x = some d
 | [], x, d => by simp only [cq, List.lookup_cons_self]
 | (y, e) :: r, x, d => by
  unfold cq
  split
  ·rw [List.lookup_cons_self]
  ·rename_i h
   rw [List.lookup_cons, show (x == y) = false from by
    cases e : x == y with
    | false => rfl
    | true => rw [eq_of_beq e, beq_self_eq_true] at h; exact absurd rfl h]
   exact jP
theorem hZ : ∀ (l : List (Str × D)) (ρ : aj) {x : Str} {e : D}, (aS ρ l).lookup x = some e → (x, e) ∈ l ∨ ((∀ p ∈ l, p.1 ≠ x) ∧ ρ.lookup x = some e)
 | [], ρ, x, e, h => .inr ⟨fun p hp => (nomatch hp), h⟩
 | (y, d) :: l, ρ, x, e, h => by
  rcases hZ l (cq ρ y d) h with h | ⟨h1, h2⟩
  ·exact .inl (List.mem_cons_of_mem _ h)
  ·clear h; rcases bT h2 with ⟨rfl, rfl⟩ | ⟨h3, h4⟩
   ·exact .inl (List.mem_cons_self ..)
   ·refine .inr ⟨fun p hp => ?_, h4⟩
    rcases List.mem_cons.mp hp with rfl | hp
    ·exact Ne.symm h3
    ·exact h1 p hp
theorem fB : ∀ (l : List (Str × D)) (ρ : aj) {x : Str} {e : D}, (∀ p ∈ l, p.1 ≠ x) → ρ.lookup x = some e → (aS ρ l).lookup x = some e
 | [], ρ, x, e, _, h => h
 | (y, d) :: l, ρ, x, e, hn, h => fB l (cq ρ y d) (fun p hp => hn p (List.mem_cons_of_mem _ hp)) (cM (Ne.symm (hn _ (List.mem_cons_self ..))) h)
theorem iY : ∀ (l : List (Str × D)) (ρ : aj) {x : Str} {e : D}, (l.map (·.1)).Nodup → (x, e) ∈ l → (aS ρ l).lookup x = some e
 | (y, d) :: l, ρ, x, e, hn, h => by
  rw [List.map_cons, List.nodup_cons] at hn
  rcases List.mem_cons.mp h with h | h
  ·cases h
   exact fB l (cq ρ _ _) (fun p hp e' => hn.1 (List.mem_map.mpr ⟨p, hp, e'⟩)) jP
  ·exact iY l (cq ρ y d) hn.2 h
theorem ng (l : List (Str × D)) (ρ : aj) (hn : (l.map (·.1)).Nodup) {x : Str} {e : D} (h : (aS ρ l).lookup x = some e) : (aS ρ l.reverse).lookup x = some e := by
 rcases hZ l ρ h with h | ⟨h1, h2⟩
 ·refine iY _ _ ?_ (List.mem_reverse.mpr h)
  rw [List.map_reverse]
  exact List.pairwise_reverse.mpr (hn.imp fun h => Ne.symm h)
 ·exact fB _ _ (fun p hp => h1 p (List.mem_reverse.mp hp)) h2
theorem n3 {us : List Expr} {xs : List Str} {ds : List D} {ρ ρ' : aj} (hN : NamesIn env us xs) (h : ej f us ds ρ = some ρ') : ρ' = aS ρ (xs.zip ds) ∧ xs.length = ds.length ∧ ∀ x ∈ xs, f.canSet x = true := by
 induction hN generalizing ds ρ with
 | nil =>
  cases ds with
  | cons _ _ => exact aW h
  | nil =>
  refine ox_ h ?_
  exact ⟨rfl, rfl, fun x hx => (nomatch hx)⟩
 | cons hk _ ih =>
  cases ds with
  | nil => exact aW h
  | cons d ds =>
  revert h; refine bE fun ρ₁ h1 h2 => ?_
  revert h1; refine bE fun x hx h3 => ?_
  obtain ⟨_, hc, rfl⟩ := Option.map_eq_some_iff.mp h3
  clear h3; cases hx
  obtain ⟨h1, h2, h3⟩ := ih h2
  refine ⟨h1, by simp [h2], fun x hx => ?_⟩
  clear hk h1; rcases List.mem_cons.mp hx with rfl | hx
  ·exact bp hc
  ·exact h3 x hx
theorem pS (V : SEnv f env) (xs : List Str) (ds : List D) {vs : List Value} {ρ : aj} {s : Shared} (hc : ∀ x ∈ xs, f.canSet x = true) (hl : xs.length = ds.length) (hv : RdAll μ g vs ds) (S : St h₀ C env g μ ρ σ τ s) :
  wpAny (model PW w) A (assignInOrder (xs.map fun n => bindName env n) vs) (fun _ s' => St h₀ C env g μ (aS ρ (xs.zip ds)) σ τ s') be s := by
 induction xs generalizing ds vs ρ s with
 | nil =>
  obtain rfl := List.length_eq_zero_iff.mp hl.symm
  obtain rfl := BD hv
  exact wpAny_pure S
 | cons x xs ih =>
  cases ds with
  | nil => cases hl
  | cons d ds =>
   cases vs with
   | nil => exact False.elim hv
   | cons v vs =>
    rw [List.map_cons]
    refine wpAny_assignInOrder_more (wpAny_bindName (dW S V (hc x (List.mem_cons_self ..)) hv.1 fun s' S' => ?_))
    exact ih ds (fun y hy => hc y (List.mem_cons_of_mem _ hy)) (Nat.succ.inj hl) hv.2 S'
theorem ue {α β : Type} {xs : List α} {ys : List β} (h : xs.length = ys.length) : xs.reverse.zip ys.reverse = (xs.zip ys).reverse := by
 induction xs generalizing ys with
 | nil => simp
 | cons x xs ih =>
  cases ys with
  | nil => simp at h
  | cons y ys =>
   have h' : xs.length = ys.length := by simpa using h
   rw [List.reverse_cons, List.reverse_cons, List.zip_append (by simp [h']), ih h']
   show _ = ((x, y) :: xs.zip ys).reverse
   rw [List.reverse_cons]
   rfl
theorem ut (V : SEnv f env) (R : Room k A) {us : List Expr} {xs : List Str} (hN : NamesIn env us xs) (hnd : xs.Nodup) (hb : ej f us ds ρ = some ρ') (S : St h₀ C env g μ ρ σ ((v, .tup ds) :: τ) s) :
  wpAny (model PW w) A (do
   rule "assign.swapped-stores"
   let items ← unpackItems v xs.length none
   assignInOrder (xs.reverse.map fun n => bindName env n) items.reverse
   pure Flow.next) (PX h₀ C env τ ρ' σ .next) be s := by
 obtain ⟨rfl, hl, hc⟩ := n3 hN hb
 have hv := S.tmp _ (List.mem_cons_self ..)
 obtain ⟨t, vs, m, rfl, ho, hr⟩ := hv
 have e3 := hr.length
 rw [Array.length_toList] at e3
 refine wpAny_bind (wpAny_rule ?_)
 rw [hl, ← e3]
 refine wpAny_bind (wpAny_unpackItems_tuple R.hd ⟨_, S.imm _ _ ho, rfl, _, rfl⟩ fun h' hk => ?_)
 have S' := S.more (ji hk) s.toks
 refine wpAny_bind (wpAny_mono (pS V xs.reverse ds.reverse (fun x hx => hc x (List.mem_reverse.mp hx)) (by simp [hl]) hr.reverse S') (fun _ s' S'' => wpAny_pure ⟨rfl, g, μ, ?_⟩) fun _ _ x => x)
 refine (S''.sub dk).rho fun x e hx => ?_
 rw [ue hl]
 refine ng _ _ ?_ hx
 rw [List.map_fst_zip (by lia)]
 exact hnd
end
end
section
set_option maxRecDepth 4000
section
variable {h₀ : Heap} {C : Cx} {env : Env} {g : PH} {μ : Mu} {ρ ρ' : aj} {σ σ' σ₁ σ₂ : aa} {τ τ' : List (Value × D)} {s : Shared} {w : World} {A : Around} {n k : Nat} {a b v : Value} {da db d r : D} {ds l : List D} {f : Fn} {p q : Pos} {o : aO} {mg mb : Str → Option Value} {ev : cy} {tr : fN} {lk : Option Nat}
theorem mK (S : St h₀ C env g μ ρ σ τ s) {op : Operator} (ht : ∀ p ∈ τ', p ∈ τ) (ha : Rd μ g a da) (hb : Rd μ g b db) (h : pJ op da db = some d) : wpAny (model PW w) A (inplaceOp op a b) (PV h₀ C env ρ σ τ' d) be s := by
 revert h; refine oE (fun h => ?_) fun h => ?_
 ·revert h; refine bE fun x hx => ?_
  refine bE fun y hy h => ?_
  obtain rfl := aH hx
  obtain rfl := aH hy
  obtain ⟨t, rfl⟩ := ha
  obtain ⟨u, rfl⟩ := hb
  cases op <;> first | exact aW h | cases h
  ·exact ql S ht
  ·exact PyProof.Rows.isub_int (S.int _ _ _ ht)
 ·revert h; refine bE fun _ ho => ?_
  refine bE fun x hx => ?_
  refine bE fun y hy h => ?_
  obtain ⟨_, hz, rfl⟩ := Option.map_eq_some_iff.mp h
  obtain rfl := nC ho
  obtain rfl := aT hx
  obtain rfl := aT hy
  obtain ⟨h1, t, rfl⟩ := ha
  obtain ⟨h2, u, rfl⟩ := hb
  exact nG S ht h1 h2 (of_decide_eq_true (bp hz))
theorem nX {x : Str} (h : f.canSet x = true) : f.isL x = true := by
 obtain ⟨kd, hk, h⟩ := cN h
 unfold Fn.isL
 rw [hk]
 clear hk; cases kd <;> first | rfl | exact eY h
theorem ux {ts : List Expr} {e : Expr} {line : Nat} (h : de e = true) (hn : ¬∃ t elt gens sc pos, ts = [t] ∧ e = .ListComp elt gens sc pos) : swapsWithSole ts e line env = pure false := by
 match ts with
 | [] => rfl
 | _ :: _ :: _ => rfl
 | [t] =>
  revert h hn
  cases e <;> intro h hn <;> first | rfl | exact eY h | exact absurd ⟨_, _, _, _, _, rfl, rfl⟩ hn
theorem m5 {ts : List Expr} {e : Expr} {line : Nat} (h : de e = true) : swapsWithSole ts e line env = pure false ∨
  ∃ x p elt gens sc pos, ts = [.Name x p] ∧ e = .ListComp elt gens sc pos ∧ swapsWithSole ts e line env = pure true := by
 by_cases hn : ∃ t elt gens sc pos, ts = [t] ∧ e = .ListComp elt gens sc pos
 ·clear h; obtain ⟨t, elt, gens, sc, pos, rfl, rfl⟩ := hn
  ·
   cases t with
   | Name x p =>
    have e1 : swapsWithSole [.Name x p] (.ListComp elt gens sc pos) line env = pure (env.blockKind == .function && env.kindOf x == some .local && p.line == (Expr.ListComp elt gens sc pos).pos.line
     && !(sc.names.any fun (n, k) => n == x && (k == .local || k == .cell))) := rfl
    rw [e1]
    cases (env.blockKind == .function && env.kindOf x == some .local && p.line == (Expr.ListComp elt gens sc pos).pos.line && !(sc.names.any fun (n, k) => n == x && (k == .local || k == .cell)))
    ·exact .inl rfl
    ·exact .inr ⟨x, p, elt, gens, sc, pos, rfl, rfl, rfl⟩
   | _ => exact .inl rfl
 ·exact .inl (ux h hn)
theorem te (HO : cF w h₀ mg mb k o) {elt : Expr} {gens : List Comprehension} {sc : Scope} {pos : Pos} (h : ((aD o n f).1 (.ListComp elt gens sc pos) ρ σ).run = some (d, σ')) (V : SEnv f env) (R : Room k A) (S : St h₀ C env g μ ρ σ τ s)
  {use : Option (Value → Sem Unit)} {Q : Value → Shared → Prop} {E : Value → Shared → Prop} (hQ : ∀ acc L s', PC h₀ C env ρ σ' τ d L (.ref acc) s' → compPost (model PW w) A E use Q (.ref acc) L (.ok .next) s') :
  wpAny (model PW w) A (comprehension (.ListComp elt gens sc pos) sc env (firstIterPos gens pos) (newList []) (firstAsync gens) (firstIter gens env) use) Q E s := by
 cases n with
 | zero => exact aW h
 | succ n =>
  obtain ⟨He, Ht⟩ := cn HO n f
  have Hc := fun sc => cn HO n (ca f sc)
  have hV := dD (.ListComp elt gens sc pos)
  have h : (Gs o f (aD o n f).1 (aD o n f).2 (fun sc => aD o n (ca f sc)) (.ListComp elt gens sc pos) (view (.ListComp elt gens sc pos)) ρ σ).run = some (d, σ') := h
  generalize view (.ListComp elt gens sc pos) = v at h hV
  cases hV <;> first | exact aW h | skip
  refine lE (fun _ hok h0 => ?_) (sE h)
  revert h0; refine tT fun lk items σ₁ h1 => ?_
  refine gE fun _ hbig => ?_
  refine tP fun ds σ₂ h4 => ?_
  refine lE fun σ₃ hu e => ?_
  clear h; cases e
  obtain ⟨hok1, hok2⟩ := Bool.and_eq_true_iff.mp (bp hok)
  obtain ⟨hf, hi⟩ := gZ HO He V R S h1
  exact j9 S V hok1 hok2 R (Hc _).1 (Hc _).2 hi hf (of_decide_eq_true (bp hbig)) h4 hu hQ
theorem PC.store {L : Addr} (HO : OrcOK w h₀ mg mb k o) (He : EvS w h₀ k f ev) (V : SEnv f env) (R : Room k A) {x : Str} {p : Pos} (h : PC h₀ C env ρ σ τ d L v s) (hs : (dZ o f ev [.Name x p] d ρ σ).run = some (ρ', σ')) {E : Value → Shared → Prop} {Q : Value → Shared → Prop}
  (hQ : ∀ s', PU h₀ C env ρ' σ' τ s' → Q .none s') : compPost (model PW w) A E (some (fun v => assignAll v ((assignEach [.Name x p] env).map (·.2)))) Q v L (.ok .next) s := by
 obtain ⟨g, μ, S, O, m, hm⟩ := h
 have hf : ∀ b ∈ [L], ∃ o : Obj, s.heap.get? b = some o ∧ ∀ v, o.data ≠ .cell v := fun b hb => by
  clear O; rcases List.mem_cons.mp hb with rfl | hb
  ·obtain ⟨oo, es, ep, h1, h2, _⟩ := hm
   exact ⟨oo, h1, fun v e => by rw [h2] at e; cases e⟩
  ·cases hb
 have Sa := S.add O hf
 have st := dY HO He V R _ hs Sa
 refine wpAny_mono st (fun _ s' ⟨g', μ', S'⟩ => ?_) fun _ _ x => x.elim
 have hL : ∀ ob, s.heap.get? L = some ob → s'.heap.get? L = some ob := fun ob e => S'.phi L ob (by simp only [Cx.add]; rw [if_pos (List.mem_cons_self ..)]; exact e)
 obtain ⟨oo, es, ep, h1, h2⟩ := hm
 refine ⟨m, ⟨oo, es, ep, hL _ h1, h2⟩, fun h' hsb => hQ _ ?_⟩
 have T := S.leaveAdd S'
 have O' := O.turn (fun _ h => h) hf S'
 refine ⟨g', μ', (T.step (s' := { s' with heap := h' }) O' (fun _ h => h) (fun b hb => ?_) ⟨fun b o hb e => hsb.extBut b o (fun e' => hb (e' ▸ List.mem_cons_self ..)) e, rfl, T.bare, fun j x _ e => e⟩).sub dk⟩
 clear O hf Sa st S' hsb O'; rcases List.mem_cons.mp hb with rfl | hb
 ·exact ⟨oo, hL _ h1, fun v e => by rw [h2.1] at e; cases e⟩
 ·cases hb
theorem qF (HO : cF w h₀ mg mb k o) (V : SEnv f env) (R : Room k A) {ts : List Expr} {e : Expr} (hok : oR ts e = true) (h1 : ((aD o n f).1 e ρ σ).run = some (d, σ₁)) (h2 : (dZ o f (aD o n f).1 ts d ρ σ₁).run = some (ρ', σ')) (S : St h₀ C env g μ ρ σ τ s) :
  wpAny (model PW w) A (exec (.Assign ts e p) env) (PX h₀ C env τ ρ' σ' .next) be s := by
 have He := (cn HO n f).1
 have hv := He _ _ _ _ _ h1
 rcases m5 (ts := ts) (env := env) (line := p.line) hv.1 with hs | ⟨x, q, elt, gens, sc, pos, rfl, rfl, hs⟩
 ·rcases jA (env := env) hok with hw | ⟨us, kk, p1, vs, k', p', xs, rfl, rfl, hw, hN, hnd⟩
  ·refine wpAny_Assign_stores (aU (hv.2 C env g μ τ A s V R S) fun v s₁ g₁ μ₁ S₁ => ?_) hs hw
   exact wpAny_mono (dY HO.toOrcOK He V R ts h2 S₁) (fun _ s' ⟨g', μ', S'⟩ => ⟨rfl, g', μ', S'.sub dk⟩) fun _ _ x => x
  ·rw [exec_Assign_arm]
   refine wpAny_bind (wpAny_standAt ?_)
   rw [hs]
   refine wpAny_bind (wpAny_pure ?_)
   rw [if_neg Bool.false_ne_true]
   refine wpAny_bind (aU (hv.2 C env g μ τ A s V R S) fun v s₁ g₁ μ₁ S₁ => ?_)
   rw [hw]
   refine wpAny_bind (wpAny_pure ?_)
   revert h2; refine tP fun ρ₁ σ₂ h3 h4 => ?_
   cases h4
   revert h3; refine lE fun ρ₂ h4 e4 => ?_
   clear hv; cases e4
   obtain ⟨l, rfl⟩ : ∃ l, d = .tup l := by
    cases n with
    | zero => exact aW h1
    | succ n =>
     revert h1; refine lE fun _ _ => ?_
     refine tK fun ds σ₃ _ h6 => ?_
     clear h4 S₁; cases h6
     exact ⟨_, rfl⟩
   exact ut V R hN hnd h4 S₁
 ·rw [exec_Assign_arm]
  refine wpAny_bind (wpAny_standAt ?_)
  rw [hs]
  refine wpAny_bind (wpAny_pure ?_)
  rw [if_pos rfl]
  have hcu := te HO h1 V R S (use := some fun v => assignAll v ((assignEach [.Name x q] env).map (·.2))) (Q := fun _ s'' => PU h₀ C env ρ' σ' τ s'') (E := be)
   fun acc L s' hp => hp.store HO.toOrcOK He V R h2 fun s'' hu => hu
  refine wpAny_bind ?_
  have e5 : (evalThenUse (.ListComp elt gens sc pos) env fun v => assignAll v ((assignEach [.Name x q] env).map (·.2))) = (comprehension (.ListComp elt gens sc pos) sc env (firstIterPos gens pos) (newList []) (firstAsync gens) (firstIter gens env) (some fun v => assignAll v ((assignEach [.Name x q] env).map (·.2))) >>= fun _ => pure ()) := rfl
  rw [e5]
  exact wpAny_bind (wpAny_mono hcu (fun _ s' hu => wpAny_pure (wpAny_pure ⟨rfl, hu⟩)) fun _ _ x => x)
end
end
section
set_option maxRecDepth 4000
inductive qW : Stmt → W1 → Prop
 | expr {e p} : qW (.Expr e p) (.expr e)
 | assign {ts e p} : qW (.Assign ts e p) (.assign ts e)
 | augN {x q op e p} : qW (.AugAssign (.Name x q) op e p) (.augN x op e)
 | augS {v x q r op e p} : qW (.AugAssign (.Subscript v (.Name x q) r) op e p) (.augS v (.Name x q) op e)
 | ifs {t a b p} : qW (.If t a b p) (.ifs t a b)
 | whil {t b p} : qW (.While t b [] p) (.whil t b)
 | for {t it b p} : qW (.For t it b [] p) (.for t it b)
 | ret {e p} : qW (.Return (some e) p) (.ret e)
 | brk {p} : qW (.Break p) .brk
 | pass {p} : qW (.Pass p) .pass
 | other {s} : qW s .other
theorem xF (s : Stmt) : qW s (kz s) := by
 cases s <;> try exact .other
 all_goals first | exact .expr | exact .assign | exact .ifs | exact .brk | exact .pass | skip
 ·rename_i e p; cases e <;> first | exact .ret | exact .other
 ·rename_i t op e p
  cases t <;> first | exact .augN | exact .other | skip
  rename_i v i r
  cases i <;> first | exact .augS | exact .other | skip
  rename_i a b c q
  cases a <;> cases b <;> cases c <;> exact .other
 ·rename_i t it b c p; cases c <;> first | exact .for | exact .other
 ·rename_i t b c p; cases c <;> first | exact .whil | exact .other
section
variable {h₀ : Heap} {C : Cx} {env : Env} {g : PH} {μ : Mu} {ρ ρ' : aj} {σ σ' σ₁ σ₂ : aa} {τ τ' : List (Value × D)} {s : Shared} {w : World} {A : Around} {n k : Nat} {a b v : Value} {da db d r : D} {ds l : List D} {f : Fn} {p q : Pos} {o : aO} {mg mb : Str → Option Value} {ev : cy} {tr : fN} {lk : Option Nat}
theorem ps (S : St h₀ C env g μ ρ σ τ s) (hv : Rd μ g v d) : ∃ g', St h₀ C env g' μ ρ (nL σ d).2 τ s ∧ Rd μ g' v (nL σ d).1 ∧ ∀ a o, g a = some o → g' a = some o := by
 unfold nL
 cases e : (cv d).bind fun i => (lstAt σ i).map fun l => (i, l) with
 | none => exact ⟨g, S, hv, fun _ _ e => e⟩
 | some q =>
  revert e; refine bE fun i hi h => ?_
  obtain ⟨l, hl, rfl⟩ := Option.map_eq_some_iff.mp h
  obtain rfl := cB hi
  obtain ⟨g', S'⟩ := S.at.freeze (bY hl) hv
  exact ⟨g', S.leaveAt (S'.sub dk), S'.tmp _ (List.mem_cons_self ..), fun a o e => S'.ext a o e⟩
theorem pq : ∀ (l : List D) {vs : List Value} {g : PH} {σ : aa}, St h₀ C env g μ ρ σ τ s → RdAll μ g vs l → ∃ g', St h₀ C env g' μ ρ (qo l σ).2 τ s ∧ RdAll μ g' vs (qo l σ).1 ∧ ∀ a o, g a = some o → g' a = some o
 | [], [], g, σ, S, h => ⟨g, S, trivial, fun _ _ e => e⟩
 | d :: l, v :: vs, g, σ, S, h => by
  obtain ⟨g₁, S₁, h1, e1⟩ := ps S h.1
  obtain ⟨g₂, S₂, h2, e2⟩ := pq l S₁ (h.2.mono e1 (List.prefix_refl _))
  refine ⟨g₂, S₂, ?_, fun a o e => e2 _ _ (e1 _ _ e)⟩
  exact ⟨h1.mono e2 (List.prefix_refl _), h2⟩
 | [], _ :: _, _, _, _, h => by cases h
 | _ :: _, [], _, _, _, h => by cases h
theorem zk (S : St h₀ C env g μ ρ σ ((v, d) :: τ) s) : PV h₀ C env ρ (frz σ d).2 τ (frz σ d).1 v s := by
 have hv := S.tmp _ (List.mem_cons_self ..)
 unfold Mine.frz
 cases e : di d with
 | none =>
  obtain ⟨g', S', h, _⟩ := ps S hv
  exact .of ((S'.sub dk).put h)
 | some l =>
  obtain rfl := dM e
  obtain ⟨a, vs, c, rfl, h1, h2⟩ := hv
  obtain ⟨g', S', h, e⟩ := pq l S h2
  refine .of ((S'.sub dk).put ?_)
  exact ⟨a, vs, c, rfl, e _ _ h1, h⟩
theorem q9 {ex : mQ} (Ht : ud w h₀ k f tr) (X : Ev w h₀ k f ex) (V : SEnv f env) (hown : f.own = true) (R : Room k A) {test : Expr} {body : List Stmt} {fl : Fl} {M : Nat} (h : (cz tr ex test body M ρ σ).run = some (fl, ρ', σ')) (S : St h₀ C env g μ ρ σ τ s)
  {Rr : Result → Shared → Prop} (hR : ∀ fw s', PX h₀ C env τ ρ' σ' fl fw s' → Rr (.ok fw) s') : codeAny (model PW w) A (.whileLoop test body [] env) Rr s := by
 refine codeAny_whileLoop (fun m s' => ∃ ρ₁ σ₁ g₁ μ₁, (cz tr ex test body m ρ₁ σ₁).run = some (fl, ρ', σ') ∧ St h₀ C env g₁ μ₁ ρ₁ σ₁ τ s') ?_ M ⟨ρ, σ, g, μ, h, S⟩
 rintro m s₁ ⟨ρ₁, σ₁, g₁, μ₁, h₁, S₁⟩
 cases m with
 | zero => exact aW h₁
 | succ m =>
  revert h₁; refine tP fun c σ₂ ht h₁ => ?_
  refine wpAny_mono (Ht _ _ _ _ _ ht C env g₁ μ₁ τ A s₁ V R S₁) (fun c s₂ ⟨e, g₂, μ₂, S₂⟩ => ?_) fun _ _ x => x.elim
  clear ht; subst e
  cases c with
  | false =>
   exact wpAny_execs_nil (hR _ _ (r3 h₁ ⟨rfl, g₂, μ₂, S₂⟩))
  | true =>
   revert h₁; refine tT fun f1 ρ₃ σ₃ he h₁ => ?_
   refine wpAny_mono (ee X V hown R body he S₂) (fun fw s₃ hp => ?_) fun _ _ x => x.elim
   cases f1 with
   | next =>
    obtain ⟨rfl, g₃, μ₃, S₃⟩ := hp
    exact ⟨m, Nat.lt_succ_self _, ρ₃.take ρ₁.length, σ₃, g₃, μ₃, h₁, S₃.cut _⟩
   | brk =>
    obtain ⟨rfl, g₃, μ₃, S₃⟩ := hp
    exact hR _ _ (r3 h₁ ⟨rfl, g₃, μ₃, S₃.cut _⟩)
   | ret dd =>
    obtain ⟨vv, rfl, hp⟩ := hp
    exact hR _ _ (r3 h₁ ⟨vv, rfl, hp⟩)
theorem mB {e : Expr} {line : Nat} (h : ph (view e) = true) : swapsWith e none line env = pure false := by
 have hV := dD e
 generalize view e = v at h hV
 cases hV <;> first | exact eY h | rfl
theorem v5 (HO : cF w h₀ mg mb k o) {ev : cy} {ex : mQ} {M : Nat} {e x : Expr} {nm : Str} {qq : Pos} {op : Operator} {fl : Fl} (He : EvS w h₀ k f ev) (V : SEnv f env) (R : Room k A) (S : St h₀ C env g μ ρ σ τ s) (h : (AN o f ev tr ex M (.augS x (.Name nm qq) op e) ρ σ).run = some (fl, ρ', σ')) :
  wpAny (model PW w) A (exec (.AugAssign (.Subscript x (.Name nm qq) q) op e p) env) (PX h₀ C env τ ρ' σ' fl) be s := by
 revert h; refine tP fun d1 σ₁ h1 => ?_
 refine lE fun j hp => ?_
 refine tP fun d2 σ₂ h2 => ?_
 refine lE fun kk hk => ?_
 refine lE fun l hi => ?_
 refine gE fun _ hb => ?_
 refine bE fun a hget => ?_
 refine tP fun b σ₃ h3 => ?_
 refine bE fun c hc => ?_
 refine lE fun l' hi' => ?_
 refine gE fun _ hlt h => ?_
 refine r3 h ?_
 obtain rfl := cB hp
 obtain rfl := aH hk
 obtain ⟨b1, b2, b3⟩ := of_decide_eq_true (bp hb)
 have hlt := of_decide_eq_true (bp hlt)
 refine wpAny_AugAssign_Subscript (He.go h1 V R S fun ov s₁ g₁ μ₁ S₁ => ?_)
 refine He.int h2 V R S₁ fun t s₂ g₂ μ₂ S₂ => ?_
 have hov := S₂.tmp _ (List.mem_cons_of_mem _ (List.mem_cons_self ..))
 obtain ⟨ax, vs, m, hov', ho, hr⟩ := S₂.lstAt hov hi
 simp only at hov'
 clear S₁ hov; subst hov'
 obtain ⟨y, hy, ry⟩ := hr.get hget
 refine wpAny_getItem_list ⟨_, ho, rfl, _, rfl⟩ b1 (by lia) (by rw [← Array.getElem?_toList]; exact hy) ?_
 refine He.go h3 V R (S₂.put ry) fun u s₃ g₃ μ₃ S₃ => ?_
 refine aU (mK S₃ ku (S₃.tmp _ (List.mem_cons_of_mem _ (List.mem_cons_self ..))) (S₃.tmp _ (List.mem_cons_self ..)) hc) fun r s₄ g₄ μ₄ S₄ => ?_
 have hr4 := S₄.tmp _ (List.mem_cons_self ..)
 have hov4 := S₄.tmp (Value.ref ax, D.ptr j) (by simp)
 have hi' := bY hi'
 obtain ⟨m, vs', n', e, hm, c5, c6, e1⟩ := S₄.ptrAt hov4 hi'
 cases e
 refine iR c5 b1 (by lia) (by lia) fun h' n' ho' hs => ?_
 have hrd : RdAll μ₄ g₄ (vs'.setIfInBounds kk.toNat r).toList (l'.set kk.toNat c) := by
  rw [Array.toList_setIfInBounds]
  exact c6.set hr4 _
 exact ⟨rfl, g₄, μ₄, (S₄.setLst hi' hm hs.extBut ho' hrd s₄.toks).sub fun q hq => by simp [hq]⟩
theorem mv (HO : cF w h₀ mg mb k o) (M : Nat) : ∀ (n : Nat), Ev w h₀ k f (ex o f M n)
 | 0 => fun st ρ σ fl ρ' σ' h => (nomatch h)
 | n + 1 => by
  intro st ρ σ fl ρ' σ' h C env g μ τ A s V hown R S
  obtain ⟨He, Ht⟩ := cn HO n f
  have X := mv HO M n
  have hV := xF st
  have h : (AN o f (aD o n f).1 (aD o n f).2 (ex o f M n) M (kz st) ρ σ).run = some (fl, ρ', σ') := h
  generalize kz st = v at h hV
  cases hV <;> first | exact aW h | skip
  ·-- a call for itself
   revert h; refine lE fun _ hc => ?_
   refine tK fun d σ₁ h1 h => ?_
   cases h
   exact wpAny_Expr_any (He.go h1 V R S fun v s₁ g₁ μ₁ S₁ => ⟨rfl, g₁, μ₁, S₁.sub dk⟩) (by simp [interactive, V.kind]) (mB (bp hc))
  ·-- an assignment
   revert h; refine lE fun _ hok => ?_
   refine tP fun d σ₁ h1 => ?_
   refine tK fun ρ₂ σ₂ h2 h => ?_
   cases h
   exact qF HO V R (bp hok) h1 h2 S
  ·-- a name turned
   revert h; refine lE fun _ hc => ?_
   refine lE fun a ha => ?_
   refine tP fun b σ₁ h1 => ?_
   refine bE fun d hd h => ?_
   cases h
   have hc := bp hc
   refine wpAny_AugAssign_Name (aU (pc V S (nX hc) ha) fun v s₁ g₁ μ₁ S₁ => ?_)
   refine He.go h1 V R S₁ fun u s₂ g₂ μ₂ S₂ => ?_
   refine aU (mK S₂ lz (S₂.tmp _ (List.mem_cons_of_mem _ (List.mem_cons_self ..))) (S₂.tmp _ (List.mem_cons_self ..)) hd) fun r s₃ g₃ μ₃ S₃ => ?_
   exact dW S₃ V hc (S₃.tmp _ (List.mem_cons_self ..)) fun s' S' => ⟨rfl, g₃, μ₃, S'.sub dk⟩
  ·exact v5 HO He V R S h
  ·-- if
   revert h; refine tP fun c σ₁ h1 h => ?_
   refine wpAny_If (wpAny_mono (Ht _ _ _ _ _ h1 C env g μ τ A s V R S) (fun c s₁ ⟨e, g₁, μ₁, S₁⟩ => ?_) fun _ _ x => x)
   clear h1; subst e
   cases c
   ·exact ee X V hown R _ h S₁
   ·exact ee X V hown R _ h S₁
  ·exact wpAny_While (q9 Ht X V hown R h S fun fw s' hp => hp)
  ·-- for
   revert h; refine tT fun lk items σ₁ h1 => ?_
   refine tT fun fl' ρ₂ σ₂ h2 => ?_
   refine lE fun σ₃ hu h => ?_
   refine r3 h ?_
   obtain ⟨hf, hi⟩ := gZ HO He V R S h1
   refine wpAny_For (wpAny_mono hi (fun x s₁ h₁ => wpAny_mono h₁ (fun it s₂ h₂ => ?_) fun _ _ x => x) fun _ _ x => x) hf
   exact zl X V hown R h2 hu h₂ fun fw s' hp => hp
  ·-- return
   revert h; refine tP fun d σ₁ h1 h => ?_
   refine wpAny_Return_some (He.go h1 V R S fun v s₁ g₁ μ₁ S₁ => ?_)
   cases hz : f.fz with
   | true =>
    simp only [hz, if_true] at h
    refine r3 h ?_
    exact ⟨v, rfl, zk S₁⟩
   | false =>
    simp only [hz, Bool.false_eq_true, if_false] at h
    refine r3 h ?_
    exact ⟨v, rfl, .of S₁⟩
  ·refine r3 h ?_
   exact wpAny_Break ⟨rfl, g, μ, S⟩
  ·refine r3 h ?_
   exact wpAny_Pass ⟨rfl, g, μ, S⟩
end
end
section
set_option maxRecDepth 4000
theorem hG : ∀ (names : List (Str × NameKind)) (n : Nat) (acc : List (Str × Addr)) (x : Str), (acc.lookup x).isSome = true → ((cellsFrom n names acc).lookup x).isSome = true
 | [], _, _, _, h => h
 | (y, kd) :: r, n, acc, x, h => by
  unfold cellsFrom
  split
  ·refine hG r _ _ x ?_
   rw [List.lookup_cons]
   cases x == y
   ·exact h
   ·rfl
  ·exact hG r _ _ x h
theorem fK : ∀ (names : List (Str × NameKind)) (n : Nat) (acc : List (Str × Addr)) (x : Str), (x, NameKind.cell) ∈ names → ((cellsFrom n names acc).lookup x).isSome = true
 | (y, kd) :: r, n, acc, x, h => by
  unfold cellsFrom
  rcases List.mem_cons.mp h with h | h
  ·obtain ⟨rfl, rfl⟩ := Prod.mk.inj h
   rw [if_pos (by rfl)]
   exact hG r _ _ _ (by rw [List.lookup_cons_self]; rfl)
  ·split
   ·exact fK r _ _ x h
   ·exact fK r _ _ x h
structure FnObj (h₀ : Heap) (a : Addr) (fd : FuncData) (body : List Stmt) (f : Fn) (isg : Bool := false) : Prop where
 obj : ∃ o, h₀.get? a = some o ∧ o.data = .func fd ∧ o.cls = .type "function"
 body : fd.body = .stmts body
 co : fd.scope.isCoroutine = false
 gen : fd.scope.isGenerator = isg
 kind : fd.scope.kind = .function
 glob : fd.globals = mainGlobals
 blt : fd.builtins = builtinsNs
 clo : fd.closure = []
 code : h₀.CodeRec fd.code fd.qualname
 sc : f.sc = fd.scope.names
 own : f.own = true
 free : ∀ p : Str × NameKind, p ∈ fd.scope.names → p.2 ≠ .free
section
variable {h₀ : Heap} {C : Cx} {env : Env} {g : PH} {μ : Mu} {ρ ρ' : aj} {σ σ' σ₁ σ₂ : aa} {τ τ' : List (Value × D)} {s s' : Shared} {w : World} {A : Around} {n k : Nat} {a b v : Value} {da db d r : D} {ds l : List D} {f : Fn} {p q : Pos} {o : aO} {mg mb : Str → Option Value} {ev : cy} {tr : fN} {lk : Option Nat}
theorem mH (V : SEnv f env) (F : Str × Value → PUnit → Sem (ForInStep PUnit)) (hF : ∀ n v u, F (n, v) u = (do storeName env n v; pure (.yield ⟨⟩))) :
  ∀ (binds : List (Str × Value)) (ds : List D) {ρ : aj} {s : Shared}, (∀ x ∈ binds, f.canSet x.1 = true) → RdAll μ g (binds.map (·.2)) ds → St h₀ C env g μ ρ σ τ s →
   wpAny (model PW w) A (forIn binds ⟨⟩ F) (fun _ s' => St h₀ C env g μ (aS ρ ((binds.map (·.1)).zip ds)) σ τ s') be s
 | [], ds, ρ, s, hc, hr, S => by rw [List.forIn_nil]; exact wpAny_pure S
 | (x, v) :: bs, [], ρ, s, hc, hr, S => by cases hr
 | (x, v) :: bs, d :: ds, ρ, s, hc, hr, S => by
  rw [List.forIn_cons, hF]
  refine wpAny_bind (wpAny_bind (dW S V (hc _ (List.mem_cons_self ..)) hr.1 fun s' S' => wpAny_pure ?_))
  exact mH V F hF bs ds (fun y hy => hc y (List.mem_cons_of_mem _ hy)) hr.2 S'
theorem Room.deeper {env : Env} (R : Room (k + 1) A) : Room k (A.deeper env) := ⟨R.hd, by have := R.dp; show A.depth + 1 + 3 * k + 3 ≤ _; lia, by have := R.un; show A.units + 3 + 16 * k + 100 < _; lia⟩
theorem gu (n : Nat) {τ₂ : List (Value × D)} (hn : (n = 0 ∧ τ₂ = τ) ∨ ((∀ so ∈ σ.drop n, ∃ c, so = .inst c []) ∧ τ₂ = [])) {fd : FuncData} {body : List Stmt} {fa : Addr} {isg : Bool} (FO : FnObj h₀ fa fd body f isg) (S : St h₀ C env g μ ρ σ τ s) {binds : List (Str × Value)} (hc : ∀ x ∈ binds, f.canSet x.1 = true) (hr : RdAll (μ.drop n) g (binds.map (·.2)) ds)
  {Q : Env → Shared → Prop}
  (hQ : ∀ env' s₁ s' ow, Ow C env g s ow → (∀ b ∈ ow, s.heap.get? b = none) → (∀ b o, s.heap.get? b = some o → s₁.heap.get? b = some o) → s₁.os = s.os → env'.locals ∈ ow → env'.scope = fd.scope → env'.cells = cellsFrom (s.heap.objs.size + 1) fd.scope.names [] → SEnv f env' → (∀ b o, h₀.get? b = some o → s'.heap.get? b = some o) →
   St h₀ (Cx.all C g (μ.drop n) (σ.drop n) s₁ ow) env' g (μ.drop n) (aS [] ((binds.map (·.1)).zip ds)) (σ.drop n) τ₂ s' → Q env' s') :
  wpAny (model PW w) A (newFunctionEnv fd.scope fd.globals fd.closure binds (fd.qualname ++ ".<locals>.") (some fa) fd.code none fd.builtins) Q be s := by
 rw [FO.clo]
 simp only [newFunctionEnv, Option.isSome_none, Bool.false_eq_true, if_false]
 refine wpAny_bind (wpAny_alloc ?_)
 refine wpAny_bind (wpAny_layCells _ (fun name kind cells => by cases hkc : kind == NameKind.cell <;> simp [hkc]) _ _ _ _ ?_)
 have ok := cellsFrom_ok fd.scope.names (s.heap.push { cls := .type "frame", data := .dict #[] }) (s.heap.objs.size + 1) [] ⟨fun _ _ hm => (nomatch hm), List.Pairwise.nil⟩ (by rw [Heap.size_push]; exact Nat.le_refl _)
 rw [Heap.size_push] at ok
 rw [show ({ s with heap := s.heap.push { cls := .type "frame", data := .dict #[] } } : Shared).heap.objs.size = s.heap.objs.size + 1 from Heap.size_push ..]
 generalize hcs : cellsFrom (s.heap.objs.size + 1) fd.scope.names [] = cs at *
 have hkeep : ∀ b o, s.heap.get? b = some o → (pushCells (s.heap.push { cls := .type "frame", data := .dict #[] }) fd.scope.names).get? b = some o := fun b o e => pushCells_keeps _ _ b o (Heap.get?_push_of_some _ e)
 have hnone : ∀ b, s.heap.objs.size ≤ b → s.heap.get? b = none := fun b hb => by
  cases e : s.heap.get? b with
  | none => rfl
  | some ob => exact absurd (Heap.lt_size e) (Nat.not_lt.mpr hb)
 have how : ∀ b ∈ s.heap.objs.size :: cs.map (·.2), s.heap.get? b = none := fun b hb => by
  rcases List.mem_cons.mp hb with rfl | hb
  ·exact bg _
  ·obtain ⟨⟨x, c⟩, hm, rfl⟩ := List.mem_map.mp hb
   exact hnone c (Nat.le_of_succ_le (ok.empty x c hm).2)
 have OW : Ow C env g s (s.heap.objs.size :: cs.map (·.2)) := by
  refine ⟨fun b hb => (S.fresh (how b hb)).1, fun b hb => (S.fresh (how b hb)).2.1, fun hb => (S.fresh (how _ hb)).2.2.1 rfl, fun c v hcell hb => ?_⟩
  obtain ⟨oc, h1, _⟩ := hcell
  rw [how c hb] at h1
  exact aW h1
 generalize henv : (({ scope := fd.scope, locals := s.heap.objs.size, globals := fd.globals, cells := cs, qual := fd.qualname ++ ".<locals>.", func := some fa, code := fd.code, frame := some s.heap.objs.size, builtins := fd.builtins } : Env)) = env'
 have V : SEnv f env' := by
  subst henv
  have hsc := FO.sc
  refine ⟨FO.kind, FO.glob, FO.blt, fun x h => ?_, fun x h => ?_, fun x h => ?_, fun x h => ?_, fun _ => rfl⟩
  ·rw [hsc] at h; exact h
  ·rw [hsc] at h; exact h
  ·rw [hsc] at h; exact absurd rfl (FO.free _ (bh h))
  ·rw [hsc] at h; exact h
 have S₁ := S.enter n hn (env' := env') (ρ' := []) (s' := { s with heap := pushCells (s.heap.push { cls := .type "frame", data := .dict #[] }) fd.scope.names }) OW hkeep rfl S.bare (fun _ _ e => e)
  (by subst henv; exact bg _) (by subst henv; exact List.mem_cons_self ..)
  ⟨fun _ => none, by subst henv; exact (Heap.Ns.new s.heap (.type "frame")).keeps (pushCells_keeps _ _), fun x d hx => by simp at hx⟩
  (fun x d hx => by simp at hx)
  (fun x _ hx => by
   clear V; subst henv
   have hx' : (x, NameKind.cell) ∈ fd.scope.names := bh hx
   obtain ⟨c, hc⟩ := Option.isSome_iff_exists.mp (hcs ▸ fK fd.scope.names (s.heap.objs.size + 1) [] x hx')
   exact ⟨c, none, hc, (ok.empty x c (mem_of_lookup hc)).1, List.mem_cons_of_mem _ (List.mem_map.mpr ⟨_, mem_of_lookup hc, rfl⟩)⟩)
  (fun x y c hx hy => by
   clear V; subst henv
   exact name_of_addr ok.apart (mem_of_lookup hx) (mem_of_lookup hy))
 refine wpAny_bind (wpAny_mono (mH V _ (fun n v u => by subst henv; rfl) binds ds hc hr S₁) (fun _ s' S' => wpAny_pure ?_) fun _ _ x => x.elim)
 have := hQ env' { s with heap := pushCells (s.heap.push { cls := .type "frame", data := .dict #[] }) fd.scope.names } s' _ OW how hkeep rfl (by subst henv; exact List.mem_cons_self ..) (by subst henv; rfl) (by subst henv; rfl) V S'.baseK S'
 exact this
noncomputable def hH (w : World) (h₀ : Heap) (fd : FuncData) (ds : List D) (kws : List (Str × D)) (xs : List Str) (es : List D) : Prop :=
 ∀ (C : Cx) (env : Env) (g : PH) (μ : Mu) (ρ : aj) (σ : aa) (τ : List (Value × D)) (vs : List Value) (A : Around) (s : Shared) (Q : List (Str × Value) → Shared → Prop), St h₀ C env g μ ρ σ τ s → RdAll μ g vs ds →
  (∀ binds, binds.map (·.1) = xs → RdAll μ g (binds.map (·.2)) es → Q binds s) → wpAny (model PW w) A (bindArgs fd ⟨vs, kws.map Dp⟩) Q be s
theorem vW (HO : cF w h₀ mg mb k o) {fd : FuncData} {body : List Stmt} {fa : Addr} (FO : FnObj h₀ fa fd body f) {kws : List (Str × D)} {xs : List Str} {es : List D} (hb : hH w h₀ fd ds kws xs es) (hc : ∀ x ∈ xs, f.canSet x = true) {M n : Nat} {fl : Fl}
  (h : (ba (ex o f M n) body (aS [] (xs.zip es)) σ).run = some (fl, ρ', σ')) (hr : fl = .ret r ∨ (fl = .next ∧ r = .none)) : CallJ w h₀ (k + 1) fa ds kws σ r σ' := by
 intro C env g μ ρ τ vs A s R S hvs
 obtain ⟨ob, ho, hd, _⟩ := FO.obj
 refine wpAny_call ?_
 refine codeAny_call_function (by have := R.dp; lia) (S.baseK _ _ ho) hd FO.co FO.gen FO.body (FO.code.keeps S.baseK) ?_
 refine wpAny_mono (hb C env g μ ρ σ τ vs A.in1 s _ S hvs fun binds h1 h2 => ?_) (fun _ _ h => h) fun _ _ x => x.elim
 refine wpAny_mono (gu 0 (.inl ⟨rfl, rfl⟩) FO S (binds := binds) (ds := es) (fun x hx => hc _ (h1 ▸ List.mem_map.mpr ⟨x, hx, rfl⟩)) h2 (Q := fun env' s₂ => s₂.heap.NoLimit ∧ codeAny (model PW w) A (.func body env') _ s₂) fun env' s₁ s' ow O _ hk hos hL _ _ V hbase S' => ?_) (fun _ _ h => h) fun _ _ x => x.elim
 refine ⟨HO.bs.nolimit.keeps hbase, codeAny_func ?_⟩
 rw [h1] at S'
 refine wpAny_mono (ee (mv HO M n) V FO.own R.deeper body h S') (fun fw s'' hp => ?_) fun _ _ x => x.elim
 clear h; rcases hr with rfl | ⟨rfl, rfl⟩
 ·obtain ⟨v, rfl, g'', μ'', S''⟩ := hp
  have T := S.exit O hk hL S''
  exact ⟨g'', μ'', T.put (S''.tmp _ (List.mem_cons_self ..))⟩
 ·obtain ⟨rfl, g'', μ'', S''⟩ := hp
  have T := S.exit O hk hL S''
  exact ⟨g'', μ'', T.put rfl⟩
theorem mC (HO : cF w h₀ mg mb k o) {fd : FuncData} {body : List Stmt} {fa : Addr} (FO : FnObj h₀ fa fd body f) {kws : List (Str × D)} {xs : List Str} {es es₂ : List D} (hb : hH w h₀ fd ds kws xs es) (hc : ∀ x ∈ xs, f.canSet x = true) {M m : Nat} {fl : Fl} (n : Nat)
  (hsh : ∀ (μ : Mu) (g : PH) (vs : List Value), RdAll μ g vs es → RdAll (μ.drop n) g vs es₂) (hn : ∀ so ∈ σ.drop n, ∃ c, so = .inst c []) {E : aa} (hE : E.length = (σ.drop n).length)
  (hE2 : ∀ (j : Nat) (so : SO), E[j]? = some so → σ'[j]? = some so ∧ ∃ c fs, so = .inst c fs ∧ qQ fs = true ∧ ∃ c', (σ.drop n)[j]? = some (.inst c' []))
  (h : (ba (ex o f M m) body (aS [] (xs.zip es₂)) (σ.drop n)).run = some (fl, ρ', σ')) (hr : (fl = .ret r ∧ iv r = true) ∨ (fl = .next ∧ r = .none)) : CallJ w h₀ (k + 1) fa ds kws σ r (σ.take n ++ E) := by
 intro C env g μ ρ τ vs A s R S hvs
 obtain ⟨ob, ho, hd, _⟩ := FO.obj
 refine wpAny_call ?_
 refine codeAny_call_function (by have := R.dp; lia) (S.baseK _ _ ho) hd FO.co FO.gen FO.body (FO.code.keeps S.baseK) ?_
 refine wpAny_mono (hb C env g μ ρ σ τ vs A.in1 s _ S hvs fun binds h1 h2 => ?_) (fun _ _ h => h) fun _ _ x => x.elim
 refine wpAny_mono (gu n (.inr ⟨hn, rfl⟩) FO S (binds := binds) (ds := es₂) (fun x hx => hc _ (h1 ▸ List.mem_map.mpr ⟨x, hx, rfl⟩)) (hsh μ g _ h2) (Q := fun env' s₂ => s₂.heap.NoLimit ∧ codeAny (model PW w) A (.func body env') _ s₂) fun env' s₁ s' ow O hnew hk hos hL _ _ V hbase S' => ?_) (fun _ _ h => h) fun _ _ x => x.elim
 refine ⟨HO.bs.nolimit.keeps hbase, codeAny_func ?_⟩
 rw [h1] at S'
 refine wpAny_mono (ee (mv HO M m) V FO.own R.deeper body h S') (fun fw s'' hp => ?_) fun _ _ x => x.elim
 clear h; rcases hr with ⟨rfl, hp2⟩ | ⟨rfl, rfl⟩
 ·obtain ⟨v, rfl, g'', μ'', S''⟩ := hp
  exact ⟨g'', μ, (S.exitI O hnew hk hL hE hE2 S'').put ((S''.tmp _ (List.mem_cons_self ..)).pf hp2)⟩
 ·obtain ⟨rfl, g'', μ'', S''⟩ := hp
  exact ⟨g'', μ, (S.exitI O hnew hk hL hE hE2 S'').put rfl⟩
end
end
section
set_option maxRecDepth 4000
section
variable {h₀ : Heap} {C : Cx} {env : Env} {g : PH} {μ : Mu} {ρ ρ' : aj} {σ σ' σ₁ σ₂ : aa} {τ τ' : List (Value × D)} {s s' : Shared} {w : World} {A : Around} {n k : Nat} {a b v : Value} {da db d r : D} {ds l : List D} {f : Fn} {p q : Pos} {o : aO} {mg mb : Str → Option Value} {ev : cy} {tr : fN} {lk : Option Nat}
 {fd : FuncData} {body : List Stmt} {fa : Addr} {Cl N : Addr} {mN : Str → Option Value}
theorem jd {isg : Bool} (FO : FnObj h₀ fa fd body f isg) : bU w h₀ fa := by
 obtain ⟨ob, ho, hd, hc⟩ := FO.obj
 intro h hk
 refine ⟨.frame, .inl rfl, fun A Q E s k q => ?_⟩
 delta keeperOf
 refine wpAny_bind (wpAny_load (k _ _ (hk _ _ ho)) ?_)
 rw [hd]
 exact wpAny_pure q
theorem qj (X : ClsAt h₀ Cl N mN) : bU w h₀ Cl := by
 intro h hk
 refine ⟨.machine, .inr (.inl rfl), fun A Q E s k q => ?_⟩
 obtain ⟨hh, g, d, t, os⟩ := s
 obtain ⟨nm, q', bs, sn, sub, col, dd, k0, k1, k2, k3, k5, hC⟩ := ((X.keeps hk).keeps k).obj
 have f1 := tc_lookup
 have hT : (⟨hh, g, d, t, os⟩ : Shared).TypeIs (.ref Cl) "type" := ⟨_, hC, rfl⟩
 delta keeperOf specialOf
 repeat (any_goals (first | assumption | with_reducible refine wpAny_loadPart_at hC ?_ | with_reducible refine wpAny_load' hC ?_ | wp_step))
theorem kP {x dd : Addr} {mm : Str → Option Value} (G : GI s.heap.get? x Cl dd) (hn : s.heap.Ns1 dd mm) : s.heap.Inst x Cl mm := by
 obtain ⟨oo, h1, h2, h3, h4, h5⟩ := G
 exact ⟨oo, h1, h2, h3, .inr ⟨dd, h4, h5, hn⟩⟩
theorem jG (X : ClsAt h₀ Cl N mN) (FO : FnObj h₀ fa fd body f) {m : Str} (hf : mN m = some (.ref fa)) (hng : mN "__getattribute__" = none) (hnh : mN "__getattr__" = none) {y : Option Value} (hB : typeLookup (.type "object") m = pure y)
  {E : Value → Shared → Prop} {x dd : Addr} {mm : Str → Option Value} {pl : Sem Bool} {Q : Value × List Value → Shared → Prop} (hk : ∀ b o, h₀.get? b = some o → s.heap.get? b = some o) (G : GI s.heap.get? x Cl dd) (hn : s.heap.Ns1 dd mm) (hsh : mm m = none)
  (hQ : Q (.ref fa, [.ref x]) s) : wpAny (model PW w) A (getMethod (.ref x) m pl) Q E s := by
 have I := kP G hn
 clear G hn; obtain ⟨hh', g, d, t, os⟩ := s
 obtain ⟨ob, ho, hd, hc⟩ := FO.obj
 obtain ⟨nm, q, bs, sn, sub, col, dd, k0, k1, k2, k3, k5, hC⟩ := (X.keeps hk).obj
 exact method_of hC (X.keeps hk).ns hng hnh hf (hk _ _ ho) hc hB I hsh hQ
theorem mh (X : ClsAt h₀ Cl N mN) {name : Str} (hng : mN "__getattribute__" = none) (hna : mN name = none) (hB : typeLookup (.type "object") name = pure none)
  {E : Value → Shared → Prop} {x dd : Addr} {mm : Str → Option Value} {v : Value} {Q : Value → Shared → Prop} (hk : ∀ b o, h₀.get? b = some o → s.heap.get? b = some o) (G : GI s.heap.get? x Cl dd) (hn : s.heap.Ns1 dd mm) (hv : mm name = some v)
  (hh : handedOut v = pure v) (hQ : ∀ t, Q v { s with toks := t }) : wpAny (model PW w) A (getAttr (.ref x) name true) Q E s := by
 have I := kP G hn
 clear G hn; obtain ⟨hh', g, d, t, os⟩ := s
 obtain ⟨nm, q, bs, sn, sub, col, dd, k0, k1, k2, k3, k5, hC⟩ := (X.keeps hk).obj
 exact load_attr hC (X.keeps hk).ns hng hna hB I hv hh (hQ _)
theorem lH (X : ClsAt h₀ Cl N mN) {name : Str} (hns : mN "__setattr__" = none) (hna : mN name = none) (hB : typeLookup (.type "object") name = pure none)
  {E : Value → Shared → Prop} {x dd : Addr} {mm : Str → Option Value} {v : Value} {ns : List Str} {Q : Unit → Shared → Prop} (hk : ∀ b o, h₀.get? b = some o → s.heap.get? b = some o) (G : GI s.heap.get? x Cl dd) (hn : s.heap.Ns1 dd mm) (hw : Within mm ns) (hsz : ns.length ≤ 1000)
  (hQ : ∀ h' t, h'.Ns1 dd (fun y => if y = name then some v else mm y) → Heap.ExtBut dd s.heap h' → Q () { s with heap := h', toks := t }) : wpAny (model PW w) A (setAttr (.ref x) name v) Q E s := by
 have I := kP G hn
 obtain ⟨oo, g1, g2, g3, g4, g5⟩ := G
 clear hn; obtain ⟨hh', g, d, t, os⟩ := s
 obtain ⟨nm, q, bs, sn, sub, col, dd', k0, k1, k2, k3, k5, hC⟩ := (X.keeps hk).obj
 have hxC : x ≠ Cl := by
  clear X g2 I; rintro rfl
  have g1' : hh'.get? x = some oo := g1
  rw [hC] at g1'
  cases g1'
  exact g3 _ rfl
 refine store_attr PySem.F.store_object hC (X.keeps hk).ns hns hna hB hxC I (fun h' tk' I' hkk hsame => ?_) hw (tv (Nat.le_trans hsz (by decide)))
 obtain ⟨o₁, e1, e2, e3, e4, e5⟩ := hsame oo g1
 have e6 : o₁.dict = oo.dict := (e5 dd g4).trans g4.symm
 have eo : o₁ = oo := by
  clear e1 e5; cases o₁
  cases oo
  simp only at e2 e3 e4 e6
  rw [e2, e3, e4, e6]
 clear g2 g3 e2 e3 e4 e5 e6; subst eo
 obtain ⟨o', f1, f2, f3, f4⟩ := I'
 rw [e1] at f1
 clear f2 f3; cases f1
 rcases f4 with ⟨f5, _⟩ | ⟨d', f5, f6, f7⟩
 ·rw [g4] at f5; cases f5
 ·rw [g4] at f5
  clear f6; cases f5
  refine hQ h' tk' f7 fun b ob hb e => ?_
  by_cases hbx : b = x
  ·subst hbx
   have g1' : hh'.get? b = some o₁ := g1
   have e' : hh'.get? b = some ob := e
   rw [g1'] at e'
   refine ox_ e' ?_
   exact e1
  ·refine hkk b ob hbx (fun o₀ dx h1 h2 => ?_) e
   have g1' : hh'.get? x = some o₁ := g1
   rw [g1'] at h1
   cases h1
   rw [g4] at h2
   refine ox_ h2 ?_
   exact hb
theorem St.freezeI (S : St h₀ C env g μ ρ σ τ s) {i c : Nat} {fs : List (Str × D)} (hi : σ[i]? = some (.inst c fs)) {v : Value} (hv : Rd μ g v (.ptr i)) : ∃ g', St h₀ C env g' μ ρ (σ.set i .dead) ((v, .obj c fs) :: τ) s := by
 obtain ⟨a, m, e1, k1⟩ := S.sto i _ hi
 obtain ⟨b1, b2, b3, b4, mm, ⟨oo, es, ep, n1, n2⟩, b6, b7⟩ := k1
 have S₁ := S.turn hi trivial e1 (h' := s.heap) (so' := .dead) (fun b o _ h => h) trivial s.toks
 have hup := bV (o := oo) (.inl b2)
 refine ⟨_, (S₁.fix (a := m) n1 b1 b3 (by intro v e; rw [n2.1] at e; cases e) ?_).put ?_⟩
 ·intro j so x m' hj hlj hmj em
  clear b1 b2 b3 b4 n1 hup; subst em
  rcases cZ hj with ⟨_, _, rfl⟩ | ⟨hne, hj⟩
  ·cases hlj
  ·exact hne (S.dist i j _ so a m' x m' hi trivial hj hlj e1 hmj rfl)
 ·skip
  obtain ⟨a', m', c1, c2⟩ := hv
  rw [e1] at c1
  cases c1
  exact ⟨a, m, mm, c2, b4.mono hup, ⟨oo, es, ep, aP .., n2⟩, b6, b7.mono hup (List.prefix_refl _)⟩
theorem Room.tc (R : Room (k + 1) A) {rest : List Value} : Room k (A.under (.builtin "type.__call__" ⟨.ref Cl :: rest, []⟩)) := by
 refine ⟨R.hd, ?_, ?_⟩
 ·have := R.dp
  show A.depth + 1 + 3 * k + 3 ≤ _
  lia
 ·have := R.un
  have e : Code.cUnits (.builtin "type.__call__" ⟨.ref Cl :: rest, []⟩) = 1 := by rfl
  show A.units + Code.cUnits (.builtin "type.__call__" ⟨.ref Cl :: rest, []⟩) + 16 * k + 100 < _
  lia
theorem rY (X : ClsAt h₀ Cl N mN) (FO : FnObj h₀ fa fd body f) (hi : mN "__init__" = some (.ref fa)) {fs : List (Str × D)} (hJ : CallJ w h₀ k fa (.ptr σ.length :: ds) [] (σ ++ [.inst Cl []]) .none σ') (hfs : σ'[σ.length]? = some (.inst Cl fs)) :
  CallJ w h₀ (k + 1) Cl ds [] σ (.obj Cl fs) (σ'.set σ.length .dead) := by
 intro C env g μ ρ τ vs A s R S hvs
 have hk := S.baseK
 obtain ⟨ob, ho, hd, hc⟩ := FO.obj
 obtain ⟨nm, q, bs, sn, sub, col, dd, k0, k1, k2, k3, k5, hC⟩ := (X.keeps hk).obj
 obtain ⟨hh, gs, dr, tk, os⟩ := s
 refine wpAny_call_obj_init PySem.F.objNew hC (X.keeps hk).ns hi (hk _ _ ho) hc fun h' x dx Mk => ?_
 obtain ⟨ox, hx, hcx, hncx, hdx⟩ := Mk.inst
 have hdd := Mk.dict ox hx
 have hnsd : h'.Ns1 dx (fun _ => none) ∧ dx ≠ x := by
  rcases hdx with ⟨hn0, _⟩ | ⟨d', hd', hne', hns'⟩
  ·rw [hn0] at hdd; cases hdd
  ·clear Mk; obtain rfl := Option.some.inj (hd'.symm.trans hdd); exact ⟨hns', hne'⟩
 obtain ⟨hns1, hne⟩ := hnsd
 obtain ⟨x1, x2, x3, x4⟩ := S.fresh (l := x) Mk.newX
 obtain ⟨y1, y2, y3, y4⟩ := S.fresh (l := dx) Mk.newD
 have S₁ := S.more (h' := h') Mk.keeps tk
 have S₂ := S₁.fixN (a := x) (o := ox) hx x1 x3 (fun y c h1 h2 h3 e => by
  obtain ⟨c', v, a1, ⟨oc, a2, _⟩, _⟩ := S.celW y h3 h2
  rw [h1] at a1
  cases a1
  clear hx hdx hne x1 x2 x3 x4; subst e
  have := Mk.newX
  have a2' : hh.get? c = some oc := a2
  rw [this] at a2'; cases a2') fun i so z m hi hl hm => x4 i so z m hi hl hm
 have S₃ := S₂.newSo (a := x) (m := dx) (so := .inst Cl []) ⟨y1, by rw [a0 _ _ hne]; exact y2, y3, ⟨ox, aP .., hcx, hncx, hdd, hne⟩, fun _ => none, hns1, fun _ _ => rfl, trivial⟩ fun i so a' m' hi hl hm => y4 i so a' m' hi hl hm
 have hup : ∀ b ob, g b = some ob → fq g x ox b = some ob := bV (.inl x2)
 have hrx : Rd (μ ++ [(x, dx)]) (fq g x ox) (.ref x) (.ptr σ.length) := by
  exact ⟨x, dx, by rw [S.len, List.getElem?_concat_length], rfl⟩
 refine aU (hJ C env _ _ ρ ((.ref x, .ptr σ.length) :: τ) (.ref x :: vs) _ _ R.tc (S₃.put hrx) ⟨hrx, hvs.mono hup (List.prefix_append ..)⟩) fun r s' g' μ' S' => ?_
 have hr := S'.tmp _ (List.mem_cons_self ..)
 refine ⟨hr, ?_⟩
 obtain ⟨g'', T⟩ := S'.freezeI hfs (S'.tmp _ (List.mem_cons_of_mem _ (List.mem_cons_self ..)))
 exact ⟨g'', μ', T.sub fun z hz => by
  rcases List.mem_cons.mp hz with rfl | hz
  ·exact List.mem_cons_self ..
  ·exact List.mem_cons_of_mem _ (List.mem_cons_of_mem _ (List.mem_cons_of_mem _ hz))⟩
end
end
section
noncomputable def dE (P : Params) (k : Str) (t : Tok) (v : Value) : DictEntry := ⟨PyData.keyHash P k, .str k t, v⟩
noncomputable def dX (P : Params) (k : String) (t : Tok) (v : Value) : DictEntry := dE P (S k) t v
noncomputable def dB (P : Params) (k : String) (t : Tok) (b : String) : DictEntry := dE P (S k) t (.builtin b)
noncomputable def dT (P : Params) (k : String) (t : Tok) (b : String) : DictEntry := dE P (S k) t (.type b)
noncomputable def dS (P : Params) (k : String) (t : Tok) (x : String) (u : Tok) : DictEntry := dE P (S k) t (.str (S x) u)
noncomputable def dI (P : Params) (k : String) (t : Tok) (x : Int) (u : Tok) : DictEntry := dE P (S k) t (.int x u)
noncomputable def dR (P : Params) (k : String) (t : Tok) (a : Addr) : DictEntry := dE P (S k) t (.ref a)
noncomputable def av (s : Stmt) : List Stmt := by
 cases s with
 | FunctionDef _ _ b => exact b
 | ClassDef _ _ _ b => exact b
 | _ => exact []
noncomputable def vC (s : Stmt) : Arguments := by
 cases s with
 | FunctionDef _ a => exact a
 | _ => exact default
noncomputable def zp (s : Stmt) : Scope := by
 cases s with
 | FunctionDef _ _ _ _ _ _ c => exact c
 | ClassDef _ _ _ _ _ _ c => exact c
 | _ => exact default
noncomputable def topB : List Stmt := behindTheImports PW
noncomputable def bG (i : Nat) : Stmt := topB.getD i (.Pass default)
noncomputable def bC (i j : Nat) : Stmt := (av (bG i)).getD j (.Pass default)
noncomputable def cP : Life := ⟨[], [], [], 0, [], [], false, #[], [], 0, false, false, false, 0, [2000, 10, 10], false, 0, true, [], [], 0, false⟩
noncomputable def bn : Drawn := ⟨0, 0, 0, 0⟩
noncomputable def cW (P : Params) (k : String) (t : Tok) : DictEntry := dB P k t k
noncomputable def aZ (P : Params) (k : String) (t : Tok) : DictEntry := dT P k t k
noncomputable def fO (c : Value) (n q : String) (s : Stmt) (g : Addr) (m r : Value) : Obj := ⟨c, none, .func ⟨(S n), (S q), vC s, .stmts (av s), zp s, g, [], .none, .none, .none, m, none, r, .none, 0⟩, #[]⟩
noncomputable def cO (n : String) (t : Tok) (q p : String) (a b c d e : Int) (r : Addr) (o : Bool) (f : Int) (r1 r2 r3 r4 : Addr) (g h : Int) (u : Tok) : Obj :=
 ⟨.type "code", none, .fields #[.str (S n) t, .str (S q) (t + 1), .str (S p) (t + 2), .int a 0, .int b 0, .int c 0, .int d 0, .int e 0, .ref r, .bool o, .int f 0, .ref r1, .none, .ref r2, .ref r3, .ref r4, .int g 0, .int h 0, .str (S p) u], #[]⟩
noncomputable def iL (t : Tok) : List Int → List Value
 | [] => []
 | i :: l => .int i t :: iL (t + 1) l
noncomputable def iS (t : Tok) (l : List Int) : Array Value := (iL t l).toArray
noncomputable def iZ (l : List Int) : Array Value := (l.map fun i => .int i 0).toArray
noncomputable def nE : BT := .nil
noncomputable def nN (P : Params) (o : Params → Obj) (l r : BT) : BT := .node (o P) l r
noncomputable def o0 (P : Params) : Obj := ⟨.type "dict",none,.dict #[dS P "__name__" 1 "builtins" 160,dB P "__doc__" 2 "builtins.__doc__:str#opaque",dB P "__package__" 3 "builtins.__package__:str#opaque",dB P "__loader__" 4 "builtins.__loader__:shared#opaque",dB P "__spec__" 5 "builtins.__spec__#opaque",cW P "__build_class__" 6,cW P "__import__" 7,cW P "abs" 8,cW P "all" 9,cW P "any" 10,cW P "ascii" 11,cW P "bin" 12,cW P "breakpoint" 13,cW P "callable" 14,cW P "chr" 15,cW P "compile" 16,cW P "delattr" 17,cW P "dir" 18,cW P "divmod" 19,cW P "eval" 20,cW P "exec" 21,cW P "format" 22,cW P "getattr" 23,cW P "globals" 24,cW P "hasattr" 25,cW P "hash" 26,cW P "hex" 27,cW P "id" 28,cW P "input" 29,cW P "isinstance" 30,cW P "issubclass" 31,cW P "iter" 32,cW P "aiter" 33,cW P "len" 34,cW P "locals" 35,cW P "max" 36,cW P "min" 37,cW P "next" 38,cW P "anext" 39,cW P "oct" 40,cW P "ord" 41,cW P "pow" 42,cW P "print" 43,cW P "repr" 44,cW P "round" 45,cW P "setattr" 46,cW P "sorted" 47,cW P "sum" 48,cW P "vars" 49,dX P "None" 50 (.none),dX P "Ellipsis" 51 (.ellipsis),dX P "NotImplemented" 52 (.notImplemented),dX P "False" 53 (.bool false),dX P "True" 54 (.bool true),aZ P "bool" 55,aZ P "memoryview" 56,aZ P "bytearray" 57,aZ P "bytes" 58,aZ P "classmethod" 59,aZ P "complex" 60,aZ P "dict" 61,aZ P "enumerate" 62,aZ P "filter" 63,aZ P "float" 64,aZ P "frozenset" 65,aZ P "property" 66,aZ P "int" 67,aZ P "list" 68,aZ P "map" 69,aZ P "object" 70,aZ P "range" 71,aZ P "reversed" 72,aZ P "set" 73,aZ P "slice" 74,aZ P "staticmethod" 75,aZ P "str" 76,aZ P "super" 77,aZ P "tuple" 78,aZ P "type" 79,aZ P "zip" 80,dX P "__debug__" 81 (.bool true),aZ P "BaseException" 82,aZ P "BaseExceptionGroup" 83,aZ P "Exception" 84,aZ P "GeneratorExit" 85,aZ P "KeyboardInterrupt" 86,aZ P "SystemExit" 87,aZ P "ArithmeticError" 88,aZ P "AssertionError" 89,aZ P "AttributeError" 90,aZ P "BufferError" 91,aZ P "EOFError" 92,aZ P "ImportError" 93,aZ P "LookupError" 94,aZ P "MemoryError" 95,aZ P "NameError" 96,aZ P "OSError" 97,aZ P "ReferenceError" 98,aZ P "RuntimeError" 99,aZ P "StopAsyncIteration" 100,aZ P "StopIteration" 101,aZ P "SyntaxError" 102,aZ P "SystemError" 103,aZ P "TypeError" 104,aZ P "ValueError" 105,aZ P "Warning" 106,aZ P "FloatingPointError" 107,aZ P "OverflowError" 108,aZ P "ZeroDivisionError" 109,aZ P "BytesWarning" 110,aZ P "DeprecationWarning" 111,aZ P "EncodingWarning" 112,aZ P "FutureWarning" 113,aZ P "ImportWarning" 114,aZ P "PendingDeprecationWarning" 115,aZ P "ResourceWarning" 116,aZ P "RuntimeWarning" 117,aZ P "SyntaxWarning" 118,aZ P "UnicodeWarning" 119,aZ P "UserWarning" 120,aZ P "BlockingIOError" 121,aZ P "ChildProcessError" 122,aZ P "ConnectionError" 123,aZ P "FileExistsError" 124,aZ P "FileNotFoundError" 125,aZ P "InterruptedError" 126,aZ P "IsADirectoryError" 127,aZ P "NotADirectoryError" 128,aZ P "PermissionError" 129,aZ P "ProcessLookupError" 130,aZ P "TimeoutError" 131,aZ P "IndentationError" 132,aZ P "_IncompleteInputError" 133,aZ P "IndexError" 134,aZ P "KeyError" 135,aZ P "ModuleNotFoundError" 136,aZ P "NotImplementedError" 137,aZ P "PythonFinalizationError" 138,aZ P "RecursionError" 139,aZ P "UnboundLocalError" 140,aZ P "UnicodeError" 141,aZ P "BrokenPipeError" 142,aZ P "ConnectionAbortedError" 143,aZ P "ConnectionRefusedError" 144,aZ P "ConnectionResetError" 145,aZ P "TabError" 146,aZ P "UnicodeDecodeError" 147,aZ P "UnicodeEncodeError" 148,aZ P "UnicodeTranslateError" 149,aZ P "ExceptionGroup" 150,dT P "EnvironmentError" 151 "OSError",dT P "IOError" 152 "OSError",cW P "open" 153,dB P "quit" 154 "builtins.quit#opaque",dB P "exit" 155 "builtins.exit#opaque",dB P "copyright" 156 "builtins.copyright#opaque",dB P "credits" 157 "builtins.credits#opaque",dB P "license" 158 "builtins.license#opaque",dB P "help" 159 "builtins.help#opaque"] 159,#[]⟩
noncomputable def o1 (P : Params) : Obj := ⟨.type "dict",none,.dict #[dR P "builtins" 162 4,dR P "__main__" 163 5,dR P "_sre" 244 12] 3,#[]⟩
noncomputable def o2 (P : Params) : Obj := ⟨.none,none,.dict #[dX P "\x69mport.loaded._sre" 183 (.bool true),dR P "class._frozen_importlib.BuiltinImporter" 185 14,dR P "watched.\x69mport" 206 18,dR P "class._frozen_importlib.ModuleSpec" 216 22,dI P "sys.modules.booked-epoch" 245 3 0,dX P "\x69mport.later-laid._sre" 270 (.bool true),dR P "watched.library" 272 27,dX P "watched.library-objects" 0 (.str ⟨#[12]⟩ 0),dX P "watched.library-deep._sre" 273 (.str ⟨#[4,0,0,11,4,0,0,11,4,0,0,3,4,0,0,11,8,4,100,105,99,116,2]⟩ 0)] 9,#[]⟩
noncomputable def o3 (P : Params) : Obj := ⟨.type "dict",none,.dict #[dS P "__name__" 165 "__main__" 164,dX P "__doc__" 166 (.none),dX P "__package__" 167 (.none),dB P "__loader__" 168 "__main__.__loader__#opaque",dX P "__spec__" 169 (.none),dR P "__annotations__" 170 6,dR P "__builtins__" 171 4,dS P "__file__" 173 "/claim/cut.py" 172,dX P "__cached__" 174 (.none),dR P "_sre" 275 12] 10,#[]⟩
noncomputable def o4 (P : Params) : Obj := ⟨.type "module",(some 0),.plain,#[]⟩
noncomputable def o5 (P : Params) : Obj := ⟨.type "module",(some 3),.plain,#[]⟩
noncomputable def o6 (P : Params) : Obj := ⟨.type "dict",none,.dict #[] 0,#[]⟩
noncomputable def o7 (P : Params) : Obj := ⟨.type "tuple",none,.seq #[] 0,#[]⟩
noncomputable def o8 (P : Params) : Obj := ⟨.none,none,.fields #[],#[]⟩
noncomputable def o9 (P : Params) : Obj := ⟨.type "code",none,.fields #[.str (S "<module>") 176,.str (S "<module>") 177,.str (S "/claim/cut.py") 178,.int 1 0,.int 0 0,.int 0 0,.int 0 0,.int 0 0,.ref 7,.bool false,.int 175 0,.ref 8,.none,.none,.none,.none,.int 179 0,.int 1 0,.str (S "/claim/cut.py") 180],#[]⟩
noncomputable def t9 (P : Params) : Obj := ⟨.type "frame",none,.plain,#[(some (.ref 9)),(some (.ref 3)),(some (.ref 3)),none,(some (.str (S "__main__") 164)),none,(some (.ref 0))]⟩
noncomputable def u4 (P : Params) : Obj := ⟨.type "dict",none,.dict #[dS P "__name__" 247 "_sre" 246,dX P "__doc__" 248 (.none),dS P "__package__" 250 "" 249,dB P "__loader__" 251 "off-the-table:_sre.__loader__:shared#opaque",dB P "__spec__" 252 "off-the-table:_sre.__spec__:shared#opaque",dB P "compile" 253 "_sre.compile",dB P "template" 254 "off-the-table:_sre.template:shared#opaque",dB P "getcodesize" 255 "off-the-table:_sre.getcodesize:shared#opaque",dB P "ascii_iscased" 256 "off-the-table:_sre.ascii_iscased:shared#opaque",dB P "unicode_iscased" 257 "off-the-table:_sre.unicode_iscased:shared#opaque",dB P "ascii_tolower" 258 "off-the-table:_sre.ascii_tolower:shared#opaque",dB P "unicode_tolower" 259 "off-the-table:_sre.unicode_tolower:shared#opaque",dI P "MAGIC" 261 20230612 260,dI P "CODESIZE" 263 4 262,dI P "MAXREPEAT" 265 4294967295 264,dI P "MAXGROUPS" 267 1073741823 266,dS P "copyright" 269 " SRE 2.2.2 Copyright (c) 1997-2002 by Secret Labs AB " 268] 17,#[]⟩
noncomputable def t8 (P : Params) : Obj := ⟨.type "module",(some 11),.plain,#[]⟩
noncomputable def t7 (P : Params) : Obj := ⟨.type "dict",none,.dict #[dS P "__module__" 189 "_frozen_importlib" 186,dI P "__firstlineno__" 190 971 187,dB P "__doc__" 191 "_frozen_importlib.BuiltinImporter.__doc__:str#opaque",dS P "_ORIGIN" 192 "built-in" 188,dB P "find_spec" 193 "_frozen_importlib.BuiltinImporter.find_spec#opaque",dB P "create_module" 194 "_frozen_importlib.BuiltinImporter.create_module#opaque",dB P "exec_module" 195 "_frozen_importlib.BuiltinImporter.exec_module#opaque",dB P "get_code" 196 "_frozen_importlib.BuiltinImporter.get_code#opaque",dB P "get_source" 197 "_frozen_importlib.BuiltinImporter.get_source#opaque",dB P "is_package" 198 "_frozen_importlib.BuiltinImporter.is_package#opaque",dB P "load_module" 199 "_frozen_importlib.BuiltinImporter.load_module#opaque",dR P "__static_attributes__" 200 15,dR P "__dict__" 202 16,dR P "__weakref__" 204 17] 14,#[]⟩
noncomputable def t6 (P : Params) : Obj := ⟨.type "type",none,.cls ⟨(S "BuiltinImporter"),[.type "object"],[.ref 14,.type "object"],13,(S "BuiltinImporter"),true,[],[],false,none,false⟩,#[]⟩
noncomputable def t0 (P : Params) : Obj := ⟨.type "getset_descriptor",none,.fields #[.str (S "__dict__") 201,.ref 14,.builtin "function.__dict__",.builtin "function.__dict__#set"],#[]⟩
noncomputable def tZ (P : Params) : Obj := ⟨.type "getset_descriptor",none,.fields #[.str (S "__weakref__") 203,.ref 14,.builtin "ExceptionGroup.__weakref__",.none],#[]⟩
noncomputable def tY (P : Params) : Obj := ⟨.none,none,.seq #[.int 13 0,.str ⟨#[6,189,10,95,95,109,111,100,117,108,101,95,95,6,186,17,95,102,114,111,122,101,110,95,105,109,112,111,114,116,108,105,98,6,190,15,95,95,102,105,114,115,116,108,105,110,101,110,111,95,95,4,187,0,971,6,191,7,95,95,100,111,99,95,95,9,52,95,102,114,111,122,101,110,95,105,109,112,111,114,116,108,105,98,46,66,117,105,108,116,105,110,73,109,112,111,114,116,101,114,46,95,95,100,111,99,95,95,58,115,116,114,35,111,112,97,113,117,101,6,192,7,95,79,82,73,71,73,78,6,188,8,98,117,105,108,116,45,105,110,6,193,9,102,105,110,100,95,115,112,101,99,9,50,95,102,114,111,122,101,110,95,105,109,112,111,114,116,108,105,98,46,66,117,105,108,116,105,110,73,109,112,111,114,116,101,114,46,102,105,110,100,95,115,112,101,99,35,111,112,97,113,117,101,6,194,13,99,114,101,97,116,101,95,109,111,100,117,108,101,9,54,95,102,114,111,122,101,110,95,105,109,112,111,114,116,108,105,98,46,66,117,105,108,116,105,110,73,109,112,111,114,116,101,114,46,99,114,101,97,116,101,95,109,111,100,117,108,101,35,111,112,97,113,117,101,6,195,11,101,120,101,99,95,109,111,100,117,108,101,9,52,95,102,114,111,122,101,110,95,105,109,112,111,114,116,108,105,98,46,66,117,105,108,116,105,110,73,109,112,111,114,116,101,114,46,101,120,101,99,95,109,111,100,117,108,101,35,111,112,97,113,117,101,6,196,8,103,101,116,95,99,111,100,101,9,49,95,102,114,111,122,101,110,95,105,109,112,111,114,116,108,105,98,46,66,117,105,108,116,105,110,73,109,112,111,114,116,101,114,46,103,101,116,95,99,111,100,101,35,111,112,97,113,117,101,6,197,10,103,101,116,95,115,111,117,114,99,101,9,51,95,102,114,111,122,101,110,95,105,109,112,111,114,116,108,105,98,46,66,117,105,108,116,105,110,73,109,112,111,114,116,101,114,46,103,101,116,95,115,111,117,114,99,101,35,111,112,97,113,117,101,6,198,10,105,115,95,112,97,99,107,97,103,101,9,51,95,102,114,111,122,101,110,95,105,109,112,111,114,116,108,105,98,46,66,117,105,108,116,105,110,73,109,112,111,114,116,101,114,46,105,115,95,112,97,99,107,97,103,101,35,111,112,97,113,117,101,6,199,11,108,111,97,100,95,109,111,100,117,108,101,9,52,95,102,114,111,122,101,110,95,105,109,112,111,114,116,108,105,98,46,66,117,105,108,116,105,110,73,109,112,111,114,116,101,114,46,108,111,97,100,95,109,111,100,117,108,101,35,111,112,97,113,117,101,6,200,21,95,95,115,116,97,116,105,99,95,97,116,116,114,105,98,117,116,101,115,95,95,4,0,0,15,6,202,8,95,95,100,105,99,116,95,95,4,0,0,16,6,204,11,95,95,119,101,97,107,114,101,102,95,95,4,0,0,17]⟩ 0,.bool true,.bool true,.str (S "") 205,.int 21 0,.str ⟨#[6,227,10,95,95,109,111,100,117,108,101,95,95,6,217,17,95,102,114,111,122,101,110,95,105,109,112,111,114,116,108,105,98,6,228,15,95,95,102,105,114,115,116,108,105,110,101,110,111,95,95,4,218,0,562,6,229,7,95,95,100,111,99,95,95,9,47,95,102,114,111,122,101,110,95,105,109,112,111,114,116,108,105,98,46,77,111,100,117,108,101,83,112,101,99,46,95,95,100,111,99,95,95,58,115,116,114,35,111,112,97,113,117,101,6,230,8,95,95,105,110,105,116,95,95,9,44,95,102,114,111,122,101,110,95,105,109,112,111,114,116,108,105,98,46,77,111,100,117,108,101,83,112,101,99,46,95,95,105,110,105,116,95,95,35,111,112,97,113,117,101,6,231,8,95,95,114,101,112,114,95,95,9,44,95,102,114,111,122,101,110,95,105,109,112,111,114,116,108,105,98,46,77,111,100,117,108,101,83,112,101,99,46,95,95,114,101,112,114,95,95,35,111,112,97,113,117,101,6,232,6,95,95,101,113,95,95,9,42,95,102,114,111,122,101,110,95,105,109,112,111,114,116,108,105,98,46,77,111,100,117,108,101,83,112,101,99,46,95,95,101,113,95,95,35,111,112,97,113,117,101,6,233,6,99,97,99,104,101,100,9,42,95,102,114,111,122,101,110,95,105,109,112,111,114,116,108,105,98,46,77,111,100,117,108,101,83,112,101,99,46,99,97,99,104,101,100,35,111,112,97,113,117,101,6,234,6,112,97,114,101,110,116,9,42,95,102,114,111,122,101,110,95,105,109,112,111,114,116,108,105,98,46,77,111,100,117,108,101,83,112,101,99,46,112,97,114,101,110,116,35,111,112,97,113,117,101,6,235,12,104,97,115,95,108,111,99,97,116,105,111,110,9,48,95,102,114,111,122,101,110,95,105,109,112,111,114,116,108,105,98,46,77,111,100,117,108,101,83,112,101,99,46,104,97,115,95,108,111,99,97,116,105,111,110,35,111,112,97,113,117,101,6,236,21,95,95,115,116,97,116,105,99,95,97,116,116,114,105,98,117,116,101,115,95,95,4,0,0,23,6,238,8,95,95,100,105,99,116,95,95,4,0,0,24,6,240,11,95,95,119,101,97,107,114,101,102,95,95,4,0,0,25,6,241,8,95,95,104,97,115,104,95,95,0]⟩ 0,.bool true,.bool true,.str (S "") 242] 1,#[]⟩
noncomputable def tX (P : Params) : Obj := ⟨.type "list",none,.seq #[] 0,#[]⟩
noncomputable def tW (P : Params) : Obj := ⟨.type "dict",none,.dict #[dS P "name" 208 "_sre" 207,dR P "loader" 209 14,dS P "origin" 210 "built-in" 184,dX P "loader_state" 211 (.none),dX P "submodule_search_locations" 212 (.none),dR P "_uninitialized_submodules" 213 19,dX P "_set_fileattr" 214 (.bool false),dX P "_cached" 215 (.none),dX P "_initializing" 243 (.bool false)] 9,#[]⟩
noncomputable def tV (P : Params) : Obj := ⟨.type "dict",none,.dict #[dS P "__module__" 227 "_frozen_importlib" 217,dI P "__firstlineno__" 228 562 218,dB P "__doc__" 229 "_frozen_importlib.ModuleSpec.__doc__:str#opaque",dB P "__init__" 230 "_frozen_importlib.ModuleSpec.__init__#opaque",dB P "__repr__" 231 "_frozen_importlib.ModuleSpec.__repr__#opaque",dB P "__eq__" 232 "_frozen_importlib.ModuleSpec.__eq__#opaque",dB P "cached" 233 "_frozen_importlib.ModuleSpec.cached#opaque",dB P "parent" 234 "_frozen_importlib.ModuleSpec.parent#opaque",dB P "has_location" 235 "_frozen_importlib.ModuleSpec.has_location#opaque",dR P "__static_attributes__" 236 23,dR P "__dict__" 238 24,dR P "__weakref__" 240 25,dX P "__hash__" 241 (.none)] 13,#[]⟩
noncomputable def tU (P : Params) : Obj := ⟨.type "type",none,.cls ⟨(S "ModuleSpec"),[.type "object"],[.ref 22,.type "object"],21,(S "ModuleSpec"),true,[],[],false,none,false⟩,#[]⟩
noncomputable def tS (P : Params) : Obj := ⟨.type "tuple",none,.seq #[.str (S "_cached") 219,.str (S "_set_fileattr") 220,.str (S "_uninitialized_submodules") 221,.str (S "loader") 222,.str (S "loader_state") 223,.str (S "name") 224,.str (S "origin") 225,.str (S "submodule_search_locations") 226] 0,#[]⟩
noncomputable def tQ (P : Params) : Obj := ⟨.type "getset_descriptor",none,.fields #[.str (S "__dict__") 237,.ref 22,.builtin "function.__dict__",.builtin "function.__dict__#set"],#[]⟩
noncomputable def tO (P : Params) : Obj := ⟨.type "getset_descriptor",none,.fields #[.str (S "__weakref__") 239,.ref 22,.builtin "ExceptionGroup.__weakref__",.none],#[]⟩
noncomputable def tN (P : Params) : Obj := ⟨.ref 22,(some 20),.plain,#[]⟩
noncomputable def tM (P : Params) : Obj := ⟨.none,none,.seq #[.int 11 0,.str ⟨#[6,247,8,95,95,110,97,109,101,95,95,6,246,4,95,115,114,101,6,248,7,95,95,100,111,99,95,95,0,6,250,11,95,95,112,97,99,107,97,103,101,95,95,6,249,0,6,251,10,95,95,108,111,97,100,101,114,95,95,4,0,0,14,6,252,8,95,95,115,112,101,99,95,95,4,0,0,26,6,253,7,99,111,109,112,105,108,101,9,12,95,115,114,101,46,99,111,109,112,105,108,101,6,254,8,116,101,109,112,108,97,116,101,9,13,95,115,114,101,46,116,101,109,112,108,97,116,101,6,255,11,103,101,116,99,111,100,101,115,105,122,101,9,16,95,115,114,101,46,103,101,116,99,111,100,101,115,105,122,101,6,256,13,97,115,99,105,105,95,105,115,99,97,115,101,100,9,18,95,115,114,101,46,97,115,99,105,105,95,105,115,99,97,115,101,100,6,257,15,117,110,105,99,111,100,101,95,105,115,99,97,115,101,100,9,20,95,115,114,101,46,117,110,105,99,111,100,101,95,105,115,99,97,115,101,100,6,258,13,97,115,99,105,105,95,116,111,108,111,119,101,114,9,18,95,115,114,101,46,97,115,99,105,105,95,116,111,108,111,119,101,114,6,259,15,117,110,105,99,111,100,101,95,116,111,108,111,119,101,114,9,20,95,115,114,101,46,117,110,105,99,111,100,101,95,116,111,108,111,119,101,114,6,261,5,77,65,71,73,67,4,260,0,20230612,6,263,8,67,79,68,69,83,73,90,69,4,262,0,4,6,265,9,77,65,88,82,69,80,69,65,84,4,264,0,4294967295,6,267,9,77,65,88,71,82,79,85,80,83,4,266,0,1073741823,6,269,9,99,111,112,121,114,105,103,104,116,6,268,53,32,83,82,69,32,50,46,50,46,50,32,67,111,112,121,114,105,103,104,116,32,40,99,41,32,49,57,57,55,45,50,48,48,50,32,98,121,32,83,101,99,114,101,116,32,76,97,98,115,32,65,66,32]⟩ 0,.bool true,.bool false,.str (S "_sre") 271] 0,#[]⟩
noncomputable def wv (P : Params) : Obj := ⟨.type "code",none,.fields #[.str (S "<module>") 277,.str (S "<module>") 278,.str (S "/claim/cut.py") 279,.int 1 0,.int 0 0,.int 0 0,.int 0 0,.int 0 0,.ref 28,.bool false,.int 276 0,.ref 29,.none,.none,.none,.none,.int 280 0,.int 1 0,.str (S "/claim/cut.py") 281],#[]⟩
noncomputable def wu (P : Params) : Obj := ⟨.type "frame",none,.plain,#[(some (.ref 30)),(some (.ref 3)),(some (.ref 3)),none,(some (.str (S "__main__") 164)),none,(some (.ref 0))]⟩
noncomputable def yd (P : Params) : Obj := ⟨.type "tuple",none,.seq #[.str (S "k") 285] 0,#[]⟩
noncomputable def yc (P : Params) : Obj := fO .none "_wall" "_wall" (bG 0) 0 .none .none
noncomputable def yb (P : Params) : Obj := cO "_wall" 282 "_wall" "/claim/cut.py" 2 1 0 0 3 32 true 276 33 34 35 36 286 2 287
noncomputable def ya (P : Params) : Obj := fO (.type "function") "_wall" "_wall" (bG 0) 3 (.str (S "__main__") 164) (.ref 37)
noncomputable def x9 (P : Params) : Obj := ⟨.type "tuple",none,.seq #[.str (S "addr") 294,.str (S "pos") 295,.str (S "escape") 296,.str (S "ch") 297] 0,#[]⟩
noncomputable def x8 (P : Params) : Obj := fO .none "_iter_escaped_chars" "_iter_escaped_chars" (bG 2) 0 .none .none
noncomputable def x7 (P : Params) : Obj := cO "_iter_escaped_chars" 291 "_iter_escaped_chars" "/claim/cut.py" 6 1 0 0 35 39 true 276 40 41 42 43 298 6 299
noncomputable def x6 (P : Params) : Obj := fO (.type "function") "_iter_escaped_chars" "_iter_escaped_chars" (bG 2) 3 (.str (S "cpy313.email.utils") 289) (.ref 44)
noncomputable def x5 (P : Params) : Obj := ⟨.type "tuple",none,.seq #[.str (S "addr") 304,.str (S "start") 305,.str (S "open_pos") 306,.str (S "result") 307,.str (S "pos") 308,.str (S "ch") 309] 0,#[]⟩
noncomputable def xZ (P : Params) : Obj := fO .none "_strip_quoted_realnames" "_strip_quoted_realnames" (bG 3) 0 .none .none
noncomputable def xY (P : Params) : Obj := cO "_strip_quoted_realnames" 301 "_strip_quoted_realnames" "/claim/cut.py" 19 1 0 0 3 46 true 276 47 48 49 50 310 19 311
noncomputable def xX (P : Params) : Obj := fO (.type "function") "_strip_quoted_realnames" "_strip_quoted_realnames" (bG 3) 3 (.str (S "cpy313.email.utils") 289) (.ref 51)
noncomputable def Hq (P : Params) : Obj := ⟨.none,none,.fields #[.int 2 0,.int 0 0,.ref 37,.int 6 0,.int 0 0,.ref 44,.int 19 0,.int 0 0,.ref 51,.int 37 0,.int 0 0,.ref 58],#[]⟩
noncomputable def xW (P : Params) : Obj := ⟨.type "tuple",none,.seq #[.str (S "addr") 316,.str (S "opens") 317,.str (S "pos") 318,.str (S "ch") 319] 0,#[]⟩
noncomputable def xV (P : Params) : Obj := fO .none "_check_parenthesis" "_check_parenthesis" (bG 4) 0 .none .none
noncomputable def xU (P : Params) : Obj := cO "_check_parenthesis" 313 "_check_parenthesis" "/claim/cut.py" 37 1 0 0 3 53 true 276 54 55 56 57 320 37 321
noncomputable def xT (P : Params) : Obj := fO (.type "function") "_check_parenthesis" "_check_parenthesis" (bG 4) 3 (.str (S "cpy313.email.utils") 289) (.ref 58)
noncomputable def Hp (P : Params) : Obj := ⟨.type "dict",none,.dict #[dS P "__name__" 165 "cpy313.tabnanny" 323,dX P "__doc__" 166 (.none),dX P "__package__" 167 (.none),dB P "__loader__" 168 "__main__.__loader__#opaque",dX P "__spec__" 169 (.none),dR P "__annotations__" 170 6,dR P "__builtins__" 171 4,dS P "__file__" 173 "/claim/cut.py" 172,dX P "__cached__" 174 (.none),dR P "_sre" 275 12,dR P "_wall" 288 38,dR P "_iter_escaped_chars" 300 45,dR P "_strip_quoted_realnames" 312 52,dR P "_check_parenthesis" 322 59] 14,#[]⟩
noncomputable def Ho (P : Params) : Obj := ⟨.type "dict",none,.dict #[dS P "__name__" 165 "cpy313.tabnanny" 323,dX P "__doc__" 166 (.none),dX P "__package__" 167 (.none),dB P "__loader__" 168 "__main__.__loader__#opaque",dX P "__spec__" 169 (.none),dR P "__annotations__" 170 6,dR P "__builtins__" 171 4,dS P "__file__" 173 "/claim/cut.py" 172,dX P "__cached__" 174 (.none),dR P "_sre" 275 12,dR P "_wall" 288 38,dR P "_iter_escaped_chars" 300 45,dR P "_strip_quoted_realnames" 312 52,dR P "_check_parenthesis" 322 59,dR P "Whitespace" 428 121] 15,#[]⟩
noncomputable def Fk (P : Params) : Obj := ⟨.none,none,.fields #[.int 2 0,.int 0 0,.ref 37,.int 6 0,.int 0 0,.ref 44,.int 19 0,.int 0 0,.ref 51,.int 37 0,.int 0 0,.ref 58,.int 49 0,.int 0 0,.ref 65],#[]⟩
noncomputable def wt (P : Params) : Obj := ⟨.type "builtin_function_or_method",none,.fields #[.builtin "type.__prepare__",.type "type"],#[]⟩
noncomputable def AK (P : Params) : Obj := ⟨.type "dict",none,.dict #[dS P "__module__" 332 "cpy313.tabnanny" 323,dS P "__qualname__" 334 "Whitespace" 333,dI P "__firstlineno__" 336 49 335,dS P "S" 340 " " 338,dX P "T" 341 (.str ⟨#[9]⟩ 339),dR P "__init__" 356 76,dR P "longest_run_of_spaces" 365 83,dR P "indent_level" 377 90,dR P "equal" 385 97,dR P "not_equal_witness" 396 104,dR P "less" 404 111,dR P "not_less_witness" 415 118,dR P "__static_attributes__" 421 119] 13,#[]⟩
noncomputable def AJ (P : Params) : Obj := ⟨.none,none,.fields #[.int 52 0,.int 4 0,.ref 75,.int 75 0,.int 4 0,.ref 82,.int 79 0,.int 4 0,.ref 89,.int 86 0,.int 4 0,.ref 96,.int 89 0,.int 4 0,.ref 103,.int 97 0,.int 4 0,.ref 110,.int 100 0,.int 4 0,.ref 117],#[]⟩
noncomputable def AI (P : Params) : Obj := ⟨.type "code",none,.fields #[.str (S "Whitespace") 327,.str (S "Whitespace") 328,.str (S "/claim/cut.py") 329,.int 49 0,.int 0 0,.int 0 0,.int 0 0,.int 0 0,.ref 63,.bool false,.int 276 0,.ref 64,.none,.none,.none,.none,.int 330 0,.int 49 0,.str (S "/claim/cut.py") 331],#[]⟩
noncomputable def AH (P : Params) : Obj := ⟨.type "frame",none,.plain,#[(some (.ref 65)),(some (.ref 3)),(some (.ref 62)),none,(some (.str (S "cpy313.tabnanny") 323)),none,(some (.ref 0))]⟩
noncomputable def AG (P : Params) : Obj := ⟨.type "str_ascii_iterator",none,.fields #[.none,.int 2 0],#[]⟩
noncomputable def AF (P : Params) : Obj := ⟨.type "StopIteration",none,.fields #[.ref 68,.none,.none,.none,.bool false,.none],#[]⟩
noncomputable def AE (P : Params) : Obj := ⟨.type "tuple",none,.seq #[.str (S "self") 345,.str (S "ws") 346,.str (S "S") 347,.str (S "T") 348,.str (S "count") 349,.str (S "b") 350,.str (S "n") 351,.str (S "nt") 352,.str (S "ch") 353] 0,#[]⟩
noncomputable def AD (P : Params) : Obj := fO .none "__init__" "Whitespace.__init__" (bC 6 1) 0 .none .none
noncomputable def AC (P : Params) : Obj := cO "__init__" 342 "Whitespace.__init__" "/claim/cut.py" 52 2 0 0 3 70 true 276 71 72 73 74 354 52 355
noncomputable def AA (P : Params) : Obj := fO (.type "function") "__init__" "Whitespace.__init__" (bC 6 1) 3 (.str (S "cpy313.tabnanny") 323) (.ref 75)
noncomputable def Az (P : Params) : Obj := ⟨.type "tuple",none,.seq #[.str (S "self") 360,.str (S "count") 361,.str (S "trailing") 362] 0,#[]⟩
noncomputable def Ay (P : Params) : Obj := fO .none "longest_run_of_spaces" "Whitespace.longest_run_of_spaces" (bC 6 2) 0 .none .none
noncomputable def Ax (P : Params) : Obj := cO "longest_run_of_spaces" 357 "Whitespace.longest_run_of_spaces" "/claim/cut.py" 75 1 0 0 3 77 true 276 78 79 80 81 363 75 364
noncomputable def Aw (P : Params) : Obj := fO (.type "function") "longest_run_of_spaces" "Whitespace.longest_run_of_spaces" (bC 6 2) 3 (.str (S "cpy313.tabnanny") 323) (.ref 82)
noncomputable def Av (P : Params) : Obj := ⟨.type "tuple",none,.seq #[.str (S "self") 369,.str (S "tabsize") 370,.str (S "count") 371,.str (S "trailing") 372,.str (S "il") 373,.str (S "i") 374] 0,#[]⟩
noncomputable def Au (P : Params) : Obj := fO .none "indent_level" "Whitespace.indent_level" (bC 6 3) 0 .none .none
noncomputable def At (P : Params) : Obj := cO "indent_level" 366 "Whitespace.indent_level" "/claim/cut.py" 79 2 0 0 3 84 true 276 85 86 87 88 375 79 376
noncomputable def As (P : Params) : Obj := fO (.type "function") "indent_level" "Whitespace.indent_level" (bC 6 3) 3 (.str (S "cpy313.tabnanny") 323) (.ref 89)
noncomputable def Ar (P : Params) : Obj := ⟨.type "tuple",none,.seq #[.str (S "self") 381,.str (S "other") 382] 0,#[]⟩
noncomputable def Aq (P : Params) : Obj := fO .none "equal" "Whitespace.equal" (bC 6 4) 0 .none .none
noncomputable def Ap (P : Params) : Obj := cO "equal" 378 "Whitespace.equal" "/claim/cut.py" 86 2 0 0 3 91 true 276 92 93 94 95 383 86 384
noncomputable def Ao (P : Params) : Obj := fO (.type "function") "equal" "Whitespace.equal" (bC 6 4) 3 (.str (S "cpy313.tabnanny") 323) (.ref 96)
noncomputable def An (P : Params) : Obj := ⟨.type "tuple",none,.seq #[.str (S "self") 389,.str (S "other") 390,.str (S "n") 391,.str (S "a") 392,.str (S "ts") 393] 0,#[]⟩
noncomputable def Am (P : Params) : Obj := fO .none "not_equal_witness" "Whitespace.not_equal_witness" (bC 6 5) 0 .none .none
noncomputable def Al (P : Params) : Obj := cO "not_equal_witness" 386 "Whitespace.not_equal_witness" "/claim/cut.py" 89 2 0 0 3 98 true 276 99 100 101 102 394 89 395
noncomputable def Ak (P : Params) : Obj := fO (.type "function") "not_equal_witness" "Whitespace.not_equal_witness" (bC 6 5) 3 (.str (S "cpy313.tabnanny") 323) (.ref 103)
noncomputable def Aj (P : Params) : Obj := ⟨.type "tuple",none,.seq #[.str (S "self") 400,.str (S "other") 401] 0,#[]⟩
noncomputable def Ai (P : Params) : Obj := fO .none "less" "Whitespace.less" (bC 6 6) 0 .none .none
noncomputable def Ah (P : Params) : Obj := cO "less" 397 "Whitespace.less" "/claim/cut.py" 97 2 0 0 3 105 true 276 106 107 108 109 402 97 403
noncomputable def Ag (P : Params) : Obj := fO (.type "function") "less" "Whitespace.less" (bC 6 6) 3 (.str (S "cpy313.tabnanny") 323) (.ref 110)
noncomputable def Af (P : Params) : Obj := ⟨.type "tuple",none,.seq #[.str (S "self") 408,.str (S "other") 409,.str (S "n") 410,.str (S "a") 411,.str (S "ts") 412] 0,#[]⟩
noncomputable def Ae (P : Params) : Obj := fO .none "not_less_witness" "Whitespace.not_less_witness" (bC 6 7) 0 .none .none
noncomputable def Ad (P : Params) : Obj := cO "not_less_witness" 405 "Whitespace.not_less_witness" "/claim/cut.py" 100 2 0 0 3 112 true 276 113 114 115 116 413 100 414
noncomputable def Ac (P : Params) : Obj := fO (.type "function") "not_less_witness" "Whitespace.not_less_witness" (bC 6 7) 3 (.str (S "cpy313.tabnanny") 323) (.ref 117)
noncomputable def Ab (P : Params) : Obj := ⟨.type "tuple",none,.seq #[.str (S "is_simple") 416,.str (S "n") 417,.str (S "norm") 418,.str (S "nt") 419,.str (S "raw") 420] 0,#[]⟩
noncomputable def Aa (P : Params) : Obj := ⟨.type "dict",none,.dict #[dS P "__module__" 332 "cpy313.tabnanny" 323,dI P "__firstlineno__" 336 49 335,dS P "S" 340 " " 338,dX P "T" 341 (.str ⟨#[9]⟩ 339),dR P "__init__" 356 76,dR P "longest_run_of_spaces" 365 83,dR P "indent_level" 377 90,dR P "equal" 385 97,dR P "not_equal_witness" 396 104,dR P "less" 404 111,dR P "not_less_witness" 415 118,dR P "__static_attributes__" 421 119,dR P "__dict__" 423 122,dR P "__weakref__" 425 123,dX P "__doc__" 426 (.none)] 4,#[]⟩
noncomputable def z8 (P : Params) : Obj := ⟨.type "type",none,.cls ⟨(S "Whitespace"),[.type "object"],[.ref 121,.type "object"],120,(S "Whitespace"),true,[],[],false,none,false⟩,#[none,none,(some (.str (S "Whitespace") 325)),(some (.str (S "Whitespace") 333)),(some (.builtin "object.__new__")),(some (.bool true))]⟩
noncomputable def z7 (P : Params) : Obj := ⟨.type "getset_descriptor",none,.fields #[.str (S "__dict__") 422,.ref 121,.builtin "function.__dict__",.builtin "function.__dict__#set"],#[]⟩
noncomputable def z0 (P : Params) : Obj := ⟨.type "getset_descriptor",none,.fields #[.str (S "__weakref__") 424,.ref 121,.builtin "ExceptionGroup.__weakref__",.none],#[]⟩
noncomputable def zZ (P : Params) : Obj := ⟨.type "super",none,.fields #[.ref 121,.ref 121,.ref 121],#[]⟩
noncomputable def zY (P : Params) : Obj := ⟨.type "builtin_function_or_method",none,.fields #[.builtin "object.__init_subclass__",.ref 121],#[]⟩
noncomputable def F2 (P : Params) : Obj := ⟨.type "dict",none,.dict #[dS P "__name__" 165 "cpy313.token" 429,dX P "__doc__" 166 (.none),dX P "__package__" 167 (.none),dB P "__loader__" 168 "__main__.__loader__#opaque",dX P "__spec__" 169 (.none),dR P "__annotations__" 170 6,dR P "__builtins__" 171 4,dS P "__file__" 173 "/claim/cut.py" 172,dX P "__cached__" 174 (.none),dR P "_sre" 275 12,dR P "_wall" 288 38,dR P "_iter_escaped_chars" 300 45,dR P "_strip_quoted_realnames" 312 52,dR P "_check_parenthesis" 322 59,dR P "Whitespace" 428 121,dI P "ENDMARKER" 432 0 431,dI P "LPAR" 434 7 433,dI P "RPAR" 436 8 435,dI P "LSQB" 438 9 437,dI P "RSQB" 440 10 439,dI P "COLON" 442 11 441,dI P "COMMA" 444 12 443,dI P "SEMI" 446 13 445,dI P "PLUS" 448 14 447,dI P "MINUS" 450 15 449,dI P "STAR" 452 16 451,dI P "SLASH" 454 17 453,dI P "VBAR" 456 18 455,dI P "AMPER" 458 19 457,dI P "LESS" 460 20 459,dI P "GREATER" 462 21 461,dI P "EQUAL" 464 22 463,dI P "DOT" 466 23 465,dI P "PERCENT" 468 24 467,dI P "LBRACE" 470 25 469,dI P "RBRACE" 472 26 471,dI P "EQEQUAL" 474 27 473,dI P "NOTEQUAL" 476 28 475,dI P "LESSEQUAL" 478 29 477,dI P "GREATEREQUAL" 480 30 479,dI P "TILDE" 482 31 481,dI P "CIRCUMFLEX" 484 32 483,dI P "LEFTSHIFT" 486 33 485,dI P "RIGHTSHIFT" 488 34 487,dI P "DOUBLESTAR" 490 35 489,dI P "PLUSEQUAL" 492 36 491,dI P "MINEQUAL" 494 37 493,dI P "STAREQUAL" 496 38 495,dI P "SLASHEQUAL" 498 39 497,dI P "PERCENTEQUAL" 500 40 499,dI P "AMPEREQUAL" 502 41 501,dI P "VBAREQUAL" 504 42 503,dI P "CIRCUMFLEXEQUAL" 506 43 505,dI P "LEFTSHIFTEQUAL" 508 44 507,dI P "RIGHTSHIFTEQUAL" 510 45 509,dI P "DOUBLESTAREQUAL" 512 46 511,dI P "DOUBLESLASH" 514 47 513,dI P "DOUBLESLASHEQUAL" 516 48 515,dI P "AT" 518 49 517,dI P "ATEQUAL" 520 50 519,dI P "RARROW" 522 51 521,dI P "ELLIPSIS" 524 52 523,dI P "COLONEQUAL" 526 53 525,dI P "EXCLAMATION" 528 54 527,dI P "NT_OFFSET" 530 256 529] 65,#[]⟩
noncomputable def F1 (P : Params) : Obj := ⟨.type "dict",none,.dict #[dS P "__name__" 165 "cpy313.token" 429,dX P "__doc__" 166 (.none),dX P "__package__" 167 (.none),dB P "__loader__" 168 "__main__.__loader__#opaque",dX P "__spec__" 169 (.none),dR P "__annotations__" 170 6,dR P "__builtins__" 171 4,dS P "__file__" 173 "/claim/cut.py" 172,dX P "__cached__" 174 (.none),dR P "_sre" 275 12,dR P "_wall" 288 38,dR P "_iter_escaped_chars" 300 45,dR P "_strip_quoted_realnames" 312 52,dR P "_check_parenthesis" 322 59,dR P "Whitespace" 428 121,dI P "ENDMARKER" 432 0 431,dI P "LPAR" 434 7 433,dI P "RPAR" 436 8 435,dI P "LSQB" 438 9 437,dI P "RSQB" 440 10 439,dI P "COLON" 442 11 441,dI P "COMMA" 444 12 443,dI P "SEMI" 446 13 445,dI P "PLUS" 448 14 447,dI P "MINUS" 450 15 449,dI P "STAR" 452 16 451,dI P "SLASH" 454 17 453,dI P "VBAR" 456 18 455,dI P "AMPER" 458 19 457,dI P "LESS" 460 20 459,dI P "GREATER" 462 21 461,dI P "EQUAL" 464 22 463,dI P "DOT" 466 23 465,dI P "PERCENT" 468 24 467,dI P "LBRACE" 470 25 469,dI P "RBRACE" 472 26 471,dI P "EQEQUAL" 474 27 473,dI P "NOTEQUAL" 476 28 475,dI P "LESSEQUAL" 478 29 477,dI P "GREATEREQUAL" 480 30 479,dI P "TILDE" 482 31 481,dI P "CIRCUMFLEX" 484 32 483,dI P "LEFTSHIFT" 486 33 485,dI P "RIGHTSHIFT" 488 34 487,dI P "DOUBLESTAR" 490 35 489,dI P "PLUSEQUAL" 492 36 491,dI P "MINEQUAL" 494 37 493,dI P "STAREQUAL" 496 38 495,dI P "SLASHEQUAL" 498 39 497,dI P "PERCENTEQUAL" 500 40 499,dI P "AMPEREQUAL" 502 41 501,dI P "VBAREQUAL" 504 42 503,dI P "CIRCUMFLEXEQUAL" 506 43 505,dI P "LEFTSHIFTEQUAL" 508 44 507,dI P "RIGHTSHIFTEQUAL" 510 45 509,dI P "DOUBLESTAREQUAL" 512 46 511,dI P "DOUBLESLASH" 514 47 513,dI P "DOUBLESLASHEQUAL" 516 48 515,dI P "AT" 518 49 517,dI P "ATEQUAL" 520 50 519,dI P "RARROW" 522 51 521,dI P "ELLIPSIS" 524 52 523,dI P "COLONEQUAL" 526 53 525,dI P "EXCLAMATION" 528 54 527,dI P "NT_OFFSET" 530 256 529,dR P "EXACT_TOKEN_TYPES" 627 126] 66,#[]⟩
noncomputable def u3 (P : Params) : Obj := ⟨.type "dict",none,.dict #[dI P "!" 531 54 527,dI P "!=" 533 28 475,dI P "%" 535 24 467,dI P "%=" 537 40 499,dI P "&" 539 19 457,dI P "&=" 541 41 501,dI P "(" 543 7 433,dI P ")" 545 8 435,dI P "*" 547 16 451,dI P "**" 549 35 489,dI P "**=" 551 46 511,dI P "*=" 553 38 495,dI P "+" 555 14 447,dI P "+=" 557 36 491,dI P "," 559 12 443,dI P "-" 561 15 449,dI P "-=" 563 37 493,dI P "->" 565 51 521,dI P "." 567 23 465,dI P "..." 569 52 523,dI P "/" 571 17 453,dI P "//" 573 47 513,dI P "//=" 575 48 515,dI P "/=" 577 39 497,dI P ":" 579 11 441,dI P ":=" 581 53 525,dI P ";" 583 13 445,dI P "<" 585 20 459,dI P "<<" 587 33 485,dI P "<<=" 589 44 507,dI P "<=" 591 29 477,dI P "=" 593 22 463,dI P "==" 595 27 473,dI P ">" 597 21 461,dI P ">=" 599 30 479,dI P ">>" 600 34 487,dI P ">>=" 601 45 509,dI P "@" 602 49 517,dI P "@=" 603 50 519,dI P "[" 604 9 437,dI P "]" 605 10 439,dI P "^" 606 32 483,dI P "^=" 607 43 505,dI P "{" 608 25 469,dI P "|" 609 18 455,dI P "|=" 610 42 503,dI P "}" 611 26 471,dI P "~" 612 31 481] 48,#[]⟩
noncomputable def u0 (P : Params) : Obj := ⟨.type "dict",none,.dict #[dI P "->" 565 51 521,dI P "." 567 23 465,dI P "..." 569 52 523,dI P "/" 571 17 453,dI P "//" 573 47 513,dI P "//=" 575 48 515,dI P "/=" 577 39 497,dI P ":" 579 11 441,dI P ":=" 581 53 525,dI P ";" 583 13 445,dI P "<" 585 20 459,dI P "<<" 587 33 485,dI P "<<=" 589 44 507,dI P "<=" 591 29 477,dI P "=" 593 22 463,dI P "==" 595 27 473,dI P ">" 597 21 461] 17,#[]⟩
noncomputable def uZ (P : Params) : Obj := ⟨.type "dict",none,.dict #[dI P ">=" 599 30 479,dI P ">>" 600 34 487,dI P ">>=" 601 45 509,dI P "@" 602 49 517,dI P "@=" 603 50 519,dI P "[" 604 9 437,dI P "]" 605 10 439,dI P "^" 606 32 483,dI P "^=" 607 43 505,dI P "{" 608 25 469,dI P "|" 609 18 455,dI P "|=" 610 42 503,dI P "}" 611 26 471,dI P "~" 612 31 481] 14,#[]⟩
noncomputable def yr (P : Params) : Obj := ⟨.type "tuple",none,.seq #[.str (S "x") 631] 0,#[]⟩
noncomputable def yq (P : Params) : Obj := fO .none "ISNONTERMINAL" "ISNONTERMINAL" (bG 59) 0 .none .none
noncomputable def yp (P : Params) : Obj := cO "ISNONTERMINAL" 628 "ISNONTERMINAL" "/claim/cut.py" 159 1 0 0 3 129 true 276 130 131 132 133 632 159 633
noncomputable def yo (P : Params) : Obj := fO (.type "function") "ISNONTERMINAL" "ISNONTERMINAL" (bG 59) 3 (.str (S "cpy313.token") 429) (.ref 134)
noncomputable def F0 (P : Params) : Obj := ⟨.none,none,.fields #[.int 2 0,.int 0 0,.ref 37,.int 6 0,.int 0 0,.ref 44,.int 19 0,.int 0 0,.ref 51,.int 37 0,.int 0 0,.ref 58,.int 49 0,.int 0 0,.ref 65,.int 159 0,.int 0 0,.ref 134,.int 161 0,.int 0 0,.ref 141],#[]⟩
noncomputable def yn (P : Params) : Obj := ⟨.type "tuple",none,.seq #[.str (S "x") 638] 0,#[]⟩
noncomputable def ym (P : Params) : Obj := fO .none "ISEOF" "ISEOF" (bG 60) 0 .none .none
noncomputable def yl (P : Params) : Obj := cO "ISEOF" 635 "ISEOF" "/claim/cut.py" 161 1 0 0 3 136 true 276 137 138 139 140 639 161 640
noncomputable def yk (P : Params) : Obj := fO (.type "function") "ISEOF" "ISEOF" (bG 60) 3 (.str (S "cpy313.token") 429) (.ref 141)
noncomputable def yj (P : Params) : Obj := ⟨.type "list",none,.seq (iS 647 [14,10,4,1,1,22,0,31,16,127,0,13,7,22,0,31,16,127,0,1]) 0,#[]⟩
noncomputable def jF (P : Params) : Obj := ⟨.type "tuple",none,.seq #[.none] 0,#[]⟩
noncomputable def yi (P : Params) : Obj := ⟨.type "tuple",none,.seq (iZ [14,10,4,1,1,22,0,31,16,127,0,13,7,22,0,31,16,127,0,1]) 0,#[]⟩
noncomputable def yh (P : Params) : Obj := ⟨.type "re.Pattern",none,.fields #[.str (S "[\\x00-\\x1F\\x7F]") 645,.int 32 668,.int 0 0,.none,.none,.ref 146,.int 0 0],#[]⟩
noncomputable def FZ (P : Params) : Obj := ⟨.type "dict",none,.dict #[dS P "__name__" 165 "cpy313.wsgiref.headers" 642,dX P "__doc__" 166 (.none),dX P "__package__" 167 (.none),dB P "__loader__" 168 "__main__.__loader__#opaque",dX P "__spec__" 169 (.none),dR P "__annotations__" 170 6,dR P "__builtins__" 171 4,dS P "__file__" 173 "/claim/cut.py" 172,dX P "__cached__" 174 (.none),dR P "_sre" 275 12,dR P "_wall" 288 38,dR P "_iter_escaped_chars" 300 45,dR P "_strip_quoted_realnames" 312 52,dR P "_check_parenthesis" 322 59,dR P "Whitespace" 428 121,dI P "ENDMARKER" 432 0 431,dI P "LPAR" 434 7 433,dI P "RPAR" 436 8 435,dI P "LSQB" 438 9 437,dI P "RSQB" 440 10 439,dI P "COLON" 442 11 441,dI P "COMMA" 444 12 443,dI P "SEMI" 446 13 445,dI P "PLUS" 448 14 447,dI P "MINUS" 450 15 449,dI P "STAR" 452 16 451,dI P "SLASH" 454 17 453,dI P "VBAR" 456 18 455,dI P "AMPER" 458 19 457,dI P "LESS" 460 20 459,dI P "GREATER" 462 21 461,dI P "EQUAL" 464 22 463,dI P "DOT" 466 23 465,dI P "PERCENT" 468 24 467,dI P "LBRACE" 470 25 469,dI P "RBRACE" 472 26 471,dI P "EQEQUAL" 474 27 473,dI P "NOTEQUAL" 476 28 475,dI P "LESSEQUAL" 478 29 477,dI P "GREATEREQUAL" 480 30 479,dI P "TILDE" 482 31 481,dI P "CIRCUMFLEX" 484 32 483,dI P "LEFTSHIFT" 486 33 485,dI P "RIGHTSHIFT" 488 34 487,dI P "DOUBLESTAR" 490 35 489,dI P "PLUSEQUAL" 492 36 491,dI P "MINEQUAL" 494 37 493,dI P "STAREQUAL" 496 38 495,dI P "SLASHEQUAL" 498 39 497,dI P "PERCENTEQUAL" 500 40 499,dI P "AMPEREQUAL" 502 41 501,dI P "VBAREQUAL" 504 42 503,dI P "CIRCUMFLEXEQUAL" 506 43 505,dI P "LEFTSHIFTEQUAL" 508 44 507,dI P "RIGHTSHIFTEQUAL" 510 45 509,dI P "DOUBLESTAREQUAL" 512 46 511,dI P "DOUBLESLASH" 514 47 513,dI P "DOUBLESLASHEQUAL" 516 48 515,dI P "AT" 518 49 517,dI P "ATEQUAL" 520 50 519,dI P "RARROW" 522 51 521,dI P "ELLIPSIS" 524 52 523,dI P "COLONEQUAL" 526 53 525,dI P "EXCLAMATION" 528 54 527,dI P "NT_OFFSET" 530 256 529,dR P "EXACT_TOKEN_TYPES" 627 126,dR P "ISNONTERMINAL" 634 135,dR P "ISEOF" 641 142,dR P "_name_disallowed_re" 669 147,dR P "_value_disallowed_re" 703 152] 70,#[]⟩
noncomputable def yg (P : Params) : Obj := ⟨.type "list",none,.seq (iS 673 [14,14,4,1,1,9,4294966783,0,0,2147483648,0,0,0,0,0,13,11,9,4294966783,0,0,2147483648,0,0,0,0,0,1]) 0,#[]⟩
noncomputable def yf (P : Params) : Obj := ⟨.type "tuple",none,.seq (iZ [14,14,4,1,1,9,4294966783,0,0,2147483648,0,0,0,0,0,13,11,9,4294966783,0,0,2147483648,0,0,0,0,0,1]) 0,#[]⟩
noncomputable def ye (P : Params) : Obj := ⟨.type "re.Pattern",none,.fields #[.str (S "[\\x00-\\x08\\x0A-\\x1F\\x7F]") 671,.int 32 702,.int 0 0,.none,.none,.ref 151,.int 0 0],#[]⟩
noncomputable def FY (P : Params) : Obj := ⟨.type "dict",none,.dict #[dS P "__name__" 165 "cpy313.wsgiref.headers" 642,dX P "__doc__" 166 (.none),dX P "__package__" 167 (.none),dB P "__loader__" 168 "__main__.__loader__#opaque",dX P "__spec__" 169 (.none),dR P "__annotations__" 170 6,dR P "__builtins__" 171 4,dS P "__file__" 173 "/claim/cut.py" 172,dX P "__cached__" 174 (.none),dR P "_sre" 275 12,dR P "_wall" 288 38,dR P "_iter_escaped_chars" 300 45,dR P "_strip_quoted_realnames" 312 52,dR P "_check_parenthesis" 322 59,dR P "Whitespace" 428 121,dI P "ENDMARKER" 432 0 431,dI P "LPAR" 434 7 433,dI P "RPAR" 436 8 435,dI P "LSQB" 438 9 437,dI P "RSQB" 440 10 439,dI P "COLON" 442 11 441,dI P "COMMA" 444 12 443,dI P "SEMI" 446 13 445,dI P "PLUS" 448 14 447,dI P "MINUS" 450 15 449,dI P "STAR" 452 16 451,dI P "SLASH" 454 17 453,dI P "VBAR" 456 18 455,dI P "AMPER" 458 19 457,dI P "LESS" 460 20 459,dI P "GREATER" 462 21 461,dI P "EQUAL" 464 22 463,dI P "DOT" 466 23 465,dI P "PERCENT" 468 24 467,dI P "LBRACE" 470 25 469,dI P "RBRACE" 472 26 471,dI P "EQEQUAL" 474 27 473,dI P "NOTEQUAL" 476 28 475,dI P "LESSEQUAL" 478 29 477,dI P "GREATEREQUAL" 480 30 479,dI P "TILDE" 482 31 481,dI P "CIRCUMFLEX" 484 32 483,dI P "LEFTSHIFT" 486 33 485,dI P "RIGHTSHIFT" 488 34 487,dI P "DOUBLESTAR" 490 35 489,dI P "PLUSEQUAL" 492 36 491,dI P "MINEQUAL" 494 37 493,dI P "STAREQUAL" 496 38 495,dI P "SLASHEQUAL" 498 39 497,dI P "PERCENTEQUAL" 500 40 499,dI P "AMPEREQUAL" 502 41 501,dI P "VBAREQUAL" 504 42 503,dI P "CIRCUMFLEXEQUAL" 506 43 505,dI P "LEFTSHIFTEQUAL" 508 44 507,dI P "RIGHTSHIFTEQUAL" 510 45 509,dI P "DOUBLESTAREQUAL" 512 46 511,dI P "DOUBLESLASH" 514 47 513,dI P "DOUBLESLASHEQUAL" 516 48 515,dI P "AT" 518 49 517,dI P "ATEQUAL" 520 50 519,dI P "RARROW" 522 51 521,dI P "ELLIPSIS" 524 52 523,dI P "COLONEQUAL" 526 53 525,dI P "EXCLAMATION" 528 54 527,dI P "NT_OFFSET" 530 256 529,dR P "EXACT_TOKEN_TYPES" 627 126,dR P "ISNONTERMINAL" 634 135,dR P "ISEOF" 641 142,dR P "_name_disallowed_re" 669 147,dR P "_value_disallowed_re" 703 152,dR P "Headers" 860 275] 71,#[]⟩
noncomputable def FX (P : Params) : Obj := ⟨.none,none,.fields #[.int 2 0,.int 0 0,.ref 37,.int 6 0,.int 0 0,.ref 44,.int 19 0,.int 0 0,.ref 51,.int 37 0,.int 0 0,.ref 58,.int 49 0,.int 0 0,.ref 65,.int 159 0,.int 0 0,.ref 134,.int 161 0,.int 0 0,.ref 141,.int 166 0,.int 0 0,.ref 158],#[]⟩
noncomputable def C9 (P : Params) : Obj := ⟨.type "dict",none,.dict #[dS P "__module__" 711 "cpy313.wsgiref.headers" 642,dS P "__qualname__" 713 "Headers" 712,dI P "__firstlineno__" 715 166 714,dR P "__init__" 725 167,dR P "_convert_string_type" 735 174,dR P "__len__" 742 181,dR P "__setitem__" 751 188,dR P "__delitem__" 757 193,dR P "__getitem__" 765 200,dR P "__contains__" 773 207,dR P "get_all" 781 214,dR P "get" 792 222,dR P "keys" 798 227,dR P "values" 804 232,dR P "items" 811 239,dR P "__repr__" 818 246,dR P "__str__" 824 251,dR P "__bytes__" 831 258,dR P "setdefault" 841 265,dR P "add_header" 851 272,dR P "__static_attributes__" 853 273] 21,#[]⟩
noncomputable def C8 (P : Params) : Obj := ⟨.none,none,.fields #[.int 168 0,.int 4 0,.ref 166,.int 178 0,.int 4 0,.ref 173,.int 186 0,.int 4 0,.ref 180,.int 189 0,.int 4 0,.ref 187,.int 193 0,.int 4 0,.ref 192,.int 197 0,.int 4 0,.ref 199,.int 200 0,.int 4 0,.ref 206,.int 203 0,.int 4 0,.ref 213,.int 206 0,.int 4 0,.ref 221,.int 213 0,.int 4 0,.ref 226,.int 216 0,.int 4 0,.ref 231,.int 219 0,.int 4 0,.ref 238,.int 222 0,.int 4 0,.ref 245,.int 225 0,.int 4 0,.ref 250,.int 228 0,.int 4 0,.ref 257,.int 231 0,.int 4 0,.ref 264,.int 239 0,.int 4 0,.ref 271],#[]⟩
noncomputable def C7 (P : Params) : Obj := ⟨.type "code",none,.fields #[.str (S "Headers") 706,.str (S "Headers") 707,.str (S "/claim/cut.py") 708,.int 166 0,.int 0 0,.int 0 0,.int 0 0,.int 0 0,.ref 156,.bool false,.int 276 0,.ref 157,.none,.none,.none,.none,.int 709 0,.int 166 0,.str (S "/claim/cut.py") 710],#[]⟩
noncomputable def C6 (P : Params) : Obj := ⟨.type "frame",none,.plain,#[(some (.ref 158)),(some (.ref 3)),(some (.ref 155)),none,(some (.str (S "cpy313.wsgiref.headers") 642)),none,(some (.ref 0))]⟩
noncomputable def C5 (P : Params) : Obj := ⟨.type "tuple",none,.seq #[.str (S "self") 719,.str (S "headers") 720,.str (S "k") 721,.str (S "v") 722] 0,#[]⟩
noncomputable def C4 (P : Params) : Obj := fO .none "__init__" "Headers.__init__" (bC 64 0) 0 .none .none
noncomputable def C3 (P : Params) : Obj := cO "__init__" 716 "Headers.__init__" "/claim/cut.py" 168 2 0 0 3 161 true 276 162 163 164 165 723 168 724
noncomputable def C2 (P : Params) : Obj := ⟨.type "function",none,.func ⟨(S "__init__"),(S "Headers.__init__"),vC (bC 64 0),.stmts (av (bC 64 0)),zp (bC 64 0),3,[],.ref 160,.none,.none,.str (S "cpy313.wsgiref.headers") 642,none,.ref 166,.none,0⟩,#[]⟩
noncomputable def C1 (P : Params) : Obj := ⟨.type "tuple",none,.seq #[.str (S "self") 729,.str (S "value") 730,.str (S "name") 731,.str (S "regex") 732] 0,#[]⟩
noncomputable def C0 (P : Params) : Obj := fO .none "_convert_string_type" "Headers._convert_string_type" (bC 64 1) 0 .none .none
noncomputable def CZ (P : Params) : Obj := cO "_convert_string_type" 726 "Headers._convert_string_type" "/claim/cut.py" 178 2 0 1 3 168 true 276 169 170 171 172 733 178 734
noncomputable def CY (P : Params) : Obj := fO (.type "function") "_convert_string_type" "Headers._convert_string_type" (bC 64 1) 3 (.str (S "cpy313.wsgiref.headers") 642) (.ref 173)
noncomputable def CX (P : Params) : Obj := ⟨.type "tuple",none,.seq #[.str (S "self") 739] 0,#[]⟩
noncomputable def CW (P : Params) : Obj := fO .none "__len__" "Headers.__len__" (bC 64 2) 0 .none .none
noncomputable def CV (P : Params) : Obj := cO "__len__" 736 "Headers.__len__" "/claim/cut.py" 186 1 0 0 3 175 true 276 176 177 178 179 740 186 741
noncomputable def CU (P : Params) : Obj := fO (.type "function") "__len__" "Headers.__len__" (bC 64 2) 3 (.str (S "cpy313.wsgiref.headers") 642) (.ref 180)
noncomputable def CT (P : Params) : Obj := ⟨.type "tuple",none,.seq #[.str (S "self") 746,.str (S "name") 747,.str (S "val") 748] 0,#[]⟩
noncomputable def CS (P : Params) : Obj := fO .none "__setitem__" "Headers.__setitem__" (bC 64 3) 0 .none .none
noncomputable def CR (P : Params) : Obj := cO "__setitem__" 743 "Headers.__setitem__" "/claim/cut.py" 189 3 0 0 3 182 true 276 183 184 185 186 749 189 750
noncomputable def CQ (P : Params) : Obj := fO (.type "function") "__setitem__" "Headers.__setitem__" (bC 64 3) 3 (.str (S "cpy313.wsgiref.headers") 642) (.ref 187)
noncomputable def CP (P : Params) : Obj := fO .none "__delitem__" "Headers.__delitem__" (bC 64 4) 0 .none .none
noncomputable def CO (P : Params) : Obj := ⟨.type "code",none,.fields #[.str (S "__delitem__") 752,.str (S "Headers.__delitem__") 753,.str (S "/claim/cut.py") 754,.int 193 0,.int 2 0,.int 0 0,.int 0 0,.int 3 0,.ref 189,.bool true,.int 276 0,.ref 190,.none,.none,.none,.ref 191,.int 755 0,.int 193 0,.str (S "/claim/cut.py") 756],#[]⟩
noncomputable def CN (P : Params) : Obj := fO (.type "function") "__delitem__" "Headers.__delitem__" (bC 64 4) 3 (.str (S "cpy313.wsgiref.headers") 642) (.ref 192)
noncomputable def CM (P : Params) : Obj := ⟨.type "tuple",none,.seq #[.str (S "self") 761,.str (S "name") 762] 0,#[]⟩
noncomputable def CL (P : Params) : Obj := fO .none "__getitem__" "Headers.__getitem__" (bC 64 5) 0 .none .none
noncomputable def CJ (P : Params) : Obj := cO "__getitem__" 758 "Headers.__getitem__" "/claim/cut.py" 197 2 0 0 3 194 true 276 195 196 197 198 763 197 764
noncomputable def CI (P : Params) : Obj := fO (.type "function") "__getitem__" "Headers.__getitem__" (bC 64 5) 3 (.str (S "cpy313.wsgiref.headers") 642) (.ref 199)
noncomputable def CH (P : Params) : Obj := ⟨.type "tuple",none,.seq #[.str (S "self") 769,.str (S "name") 770] 0,#[]⟩
noncomputable def CG (P : Params) : Obj := fO .none "__contains__" "Headers.__contains__" (bC 64 6) 0 .none .none
noncomputable def CF (P : Params) : Obj := cO "__contains__" 766 "Headers.__contains__" "/claim/cut.py" 200 2 0 0 3 201 true 276 202 203 204 205 771 200 772
noncomputable def CE (P : Params) : Obj := fO (.type "function") "__contains__" "Headers.__contains__" (bC 64 6) 3 (.str (S "cpy313.wsgiref.headers") 642) (.ref 206)
noncomputable def CD (P : Params) : Obj := ⟨.type "tuple",none,.seq #[.str (S "self") 777,.str (S "name") 778] 0,#[]⟩
noncomputable def CC (P : Params) : Obj := fO .none "get_all" "Headers.get_all" (bC 64 7) 0 .none .none
noncomputable def CB (P : Params) : Obj := cO "get_all" 774 "Headers.get_all" "/claim/cut.py" 203 2 0 0 3 208 true 276 209 210 211 212 779 203 780
noncomputable def CA (P : Params) : Obj := fO (.type "function") "get_all" "Headers.get_all" (bC 64 7) 3 (.str (S "cpy313.wsgiref.headers") 642) (.ref 213)
noncomputable def Cz (P : Params) : Obj := ⟨.type "tuple",none,.seq #[.str (S "self") 785,.str (S "name") 786,.str (S "default") 787,.str (S "k") 788,.str (S "v") 789] 0,#[]⟩
noncomputable def Cy (P : Params) : Obj := fO .none "get" "Headers.get" (bC 64 8) 0 .none .none
noncomputable def Cw (P : Params) : Obj := cO "get" 782 "Headers.get" "/claim/cut.py" 206 3 0 0 3 216 true 276 217 218 219 220 790 206 791
noncomputable def Cv (P : Params) : Obj := ⟨.type "function",none,.func ⟨(S "get"),(S "Headers.get"),vC (bC 64 8),.stmts (av (bC 64 8)),zp (bC 64 8),3,[],.ref 215,.none,.none,.str (S "cpy313.wsgiref.headers") 642,none,.ref 221,.none,0⟩,#[]⟩
noncomputable def Cu (P : Params) : Obj := fO .none "keys" "Headers.keys" (bC 64 9) 0 .none .none
noncomputable def Ct (P : Params) : Obj := ⟨.type "code",none,.fields #[.str (S "keys") 793,.str (S "Headers.keys") 794,.str (S "/claim/cut.py") 795,.int 213 0,.int 1 0,.int 0 0,.int 0 0,.int 3 0,.ref 223,.bool true,.int 276 0,.ref 224,.none,.none,.none,.ref 225,.int 796 0,.int 213 0,.str (S "/claim/cut.py") 797],#[]⟩
noncomputable def Cs (P : Params) : Obj := fO (.type "function") "keys" "Headers.keys" (bC 64 9) 3 (.str (S "cpy313.wsgiref.headers") 642) (.ref 226)
noncomputable def Cr (P : Params) : Obj := fO .none "values" "Headers.values" (bC 64 10) 0 .none .none
noncomputable def Cq (P : Params) : Obj := ⟨.type "code",none,.fields #[.str (S "values") 799,.str (S "Headers.values") 800,.str (S "/claim/cut.py") 801,.int 216 0,.int 1 0,.int 0 0,.int 0 0,.int 3 0,.ref 228,.bool true,.int 276 0,.ref 229,.none,.none,.none,.ref 230,.int 802 0,.int 216 0,.str (S "/claim/cut.py") 803],#[]⟩
noncomputable def Cp (P : Params) : Obj := fO (.type "function") "values" "Headers.values" (bC 64 10) 3 (.str (S "cpy313.wsgiref.headers") 642) (.ref 231)
noncomputable def Co (P : Params) : Obj := ⟨.type "tuple",none,.seq #[.str (S "self") 808] 0,#[]⟩
noncomputable def Cn (P : Params) : Obj := fO .none "items" "Headers.items" (bC 64 11) 0 .none .none
noncomputable def Cm (P : Params) : Obj := cO "items" 805 "Headers.items" "/claim/cut.py" 219 1 0 0 3 233 true 276 234 235 236 237 809 219 810
noncomputable def Ck (P : Params) : Obj := fO (.type "function") "items" "Headers.items" (bC 64 11) 3 (.str (S "cpy313.wsgiref.headers") 642) (.ref 238)
noncomputable def Cj (P : Params) : Obj := ⟨.type "tuple",none,.seq #[.str (S "self") 815] 0,#[]⟩
noncomputable def Ci (P : Params) : Obj := fO .none "__repr__" "Headers.__repr__" (bC 64 12) 0 .none .none
noncomputable def Ch (P : Params) : Obj := cO "__repr__" 812 "Headers.__repr__" "/claim/cut.py" 222 1 0 0 3 240 true 276 241 242 243 244 816 222 817
noncomputable def Cg (P : Params) : Obj := fO (.type "function") "__repr__" "Headers.__repr__" (bC 64 12) 3 (.str (S "cpy313.wsgiref.headers") 642) (.ref 245)
noncomputable def Cf (P : Params) : Obj := fO .none "__str__" "Headers.__str__" (bC 64 13) 0 .none .none
noncomputable def Ce (P : Params) : Obj := ⟨.type "code",none,.fields #[.str (S "__str__") 819,.str (S "Headers.__str__") 820,.str (S "/claim/cut.py") 821,.int 225 0,.int 1 0,.int 0 0,.int 0 0,.int 3 0,.ref 247,.bool true,.int 276 0,.ref 248,.none,.none,.none,.ref 249,.int 822 0,.int 225 0,.str (S "/claim/cut.py") 823],#[]⟩
noncomputable def Cd (P : Params) : Obj := fO (.type "function") "__str__" "Headers.__str__" (bC 64 13) 3 (.str (S "cpy313.wsgiref.headers") 642) (.ref 250)
noncomputable def Cc (P : Params) : Obj := ⟨.type "tuple",none,.seq #[.str (S "self") 828] 0,#[]⟩
noncomputable def Cb (P : Params) : Obj := fO .none "__bytes__" "Headers.__bytes__" (bC 64 14) 0 .none .none
noncomputable def Ca (P : Params) : Obj := cO "__bytes__" 825 "Headers.__bytes__" "/claim/cut.py" 228 1 0 0 3 252 true 276 253 254 255 256 829 228 830
noncomputable def B9 (P : Params) : Obj := fO (.type "function") "__bytes__" "Headers.__bytes__" (bC 64 14) 3 (.str (S "cpy313.wsgiref.headers") 642) (.ref 257)
noncomputable def B8 (P : Params) : Obj := ⟨.type "tuple",none,.seq #[.str (S "self") 835,.str (S "name") 836,.str (S "value") 837,.str (S "result") 838] 0,#[]⟩
noncomputable def B7 (P : Params) : Obj := fO .none "setdefault" "Headers.setdefault" (bC 64 15) 0 .none .none
noncomputable def B6 (P : Params) : Obj := cO "setdefault" 832 "Headers.setdefault" "/claim/cut.py" 231 3 0 0 3 259 true 276 260 261 262 263 839 231 840
noncomputable def B5 (P : Params) : Obj := fO (.type "function") "setdefault" "Headers.setdefault" (bC 64 15) 3 (.str (S "cpy313.wsgiref.headers") 642) (.ref 264)
noncomputable def B4 (P : Params) : Obj := ⟨.type "tuple",none,.seq #[.str (S "self") 845,.str (S "_name") 846,.str (S "_value") 847,.str (S "_params") 848] 0,#[]⟩
noncomputable def B3 (P : Params) : Obj := fO .none "add_header" "Headers.add_header" (bC 64 16) 0 .none .none
noncomputable def B2 (P : Params) : Obj := cO "add_header" 842 "Headers.add_header" "/claim/cut.py" 239 3 0 0 11 266 true 276 267 268 269 270 849 239 850
noncomputable def B1 (P : Params) : Obj := fO (.type "function") "add_header" "Headers.add_header" (bC 64 16) 3 (.str (S "cpy313.wsgiref.headers") 642) (.ref 271)
noncomputable def BZ (P : Params) : Obj := ⟨.type "tuple",none,.seq #[.str (S "_headers") 852] 0,#[]⟩
noncomputable def BY (P : Params) : Obj := ⟨.type "dict",none,.dict #[dS P "__module__" 711 "cpy313.wsgiref.headers" 642,dI P "__firstlineno__" 715 166 714,dR P "__init__" 725 167,dR P "_convert_string_type" 735 174,dR P "__len__" 742 181,dR P "__setitem__" 751 188,dR P "__delitem__" 757 193,dR P "__getitem__" 765 200,dR P "__contains__" 773 207,dR P "get_all" 781 214,dR P "get" 792 222,dR P "keys" 798 227,dR P "values" 804 232,dR P "items" 811 239,dR P "__repr__" 818 246,dR P "__str__" 824 251,dR P "__bytes__" 831 258,dR P "setdefault" 841 265,dR P "add_header" 851 272,dR P "__static_attributes__" 853 273,dR P "__dict__" 855 276,dR P "__weakref__" 857 277,dX P "__doc__" 858 (.none)] 4,#[]⟩
noncomputable def BX (P : Params) : Obj := ⟨.type "type",none,.cls ⟨(S "Headers"),[.type "object"],[.ref 275,.type "object"],274,(S "Headers"),true,[],[],false,none,false⟩,#[none,none,(some (.str (S "Headers") 704)),(some (.str (S "Headers") 712)),(some (.builtin "object.__new__")),(some (.bool true))]⟩
noncomputable def BW (P : Params) : Obj := ⟨.type "getset_descriptor",none,.fields #[.str (S "__dict__") 854,.ref 275,.builtin "function.__dict__",.builtin "function.__dict__#set"],#[]⟩
noncomputable def BV (P : Params) : Obj := ⟨.type "getset_descriptor",none,.fields #[.str (S "__weakref__") 856,.ref 275,.builtin "ExceptionGroup.__weakref__",.none],#[]⟩
noncomputable def BU (P : Params) : Obj := ⟨.type "super",none,.fields #[.ref 275,.ref 275,.ref 275],#[]⟩
noncomputable def BS (P : Params) : Obj := ⟨.type "builtin_function_or_method",none,.fields #[.builtin "object.__init_subclass__",.ref 275],#[]⟩
noncomputable def FW (P : Params) : Obj := fO .none "_law_page" "_law_page" (bG 66) 0 .none .none
noncomputable def FV (P : Params) : Obj := ⟨.type "code",none,.fields #[.str (S "_law_page") 863,.str (S "_law_page") 864,.str (S "/claim/cut.py") 865,.int 242 0,.int 1 0,.int 0 0,.int 0 0,.int 3 0,.ref 280,.bool true,.int 276 0,.ref 281,.none,.none,.none,.ref 282,.int 866 0,.int 242 0,.str (S "/claim/cut.py") 867],#[]⟩
noncomputable def FU (P : Params) : Obj := fO (.type "function") "_law_page" "_law_page" (bG 66) 3 (.str (S "law_sh0075_01") 861) (.ref 283)
noncomputable def FT (P : Params) : Obj := fO .none "_law_text" "_law_text" (bG 67) 0 .none .none
noncomputable def FS (P : Params) : Obj := ⟨.type "code",none,.fields #[.str (S "_law_text") 869,.str (S "_law_text") 870,.str (S "/claim/cut.py") 871,.int 265 0,.int 1 0,.int 0 0,.int 0 0,.int 3 0,.ref 285,.bool true,.int 276 0,.ref 286,.none,.none,.none,.ref 287,.int 872 0,.int 265 0,.str (S "/claim/cut.py") 873],#[]⟩
noncomputable def FR (P : Params) : Obj := fO (.type "function") "_law_text" "_law_text" (bG 67) 3 (.str (S "law_sh0075_01") 861) (.ref 288)
noncomputable def FQ (P : Params) : Obj := ⟨.type "tuple",none,.seq #[.str (S "text") 878,.str (S "row") 879,.str (S "place") 880,.str (S "sign") 881] 0,#[]⟩
noncomputable def FP (P : Params) : Obj := fO .none "_law_places" "_law_places" (bG 68) 0 .none .none
noncomputable def FN (P : Params) : Obj := cO "_law_places" 875 "_law_places" "/claim/cut.py" 286 1 0 0 3 290 true 276 291 292 293 294 882 286 883
noncomputable def FM (P : Params) : Obj := fO (.type "function") "_law_places" "_law_places" (bG 68) 3 (.str (S "law_sh0075_01") 861) (.ref 295)
noncomputable def FL (P : Params) : Obj := fO .none "_law_cut" "_law_cut" (bG 69) 0 .none .none
noncomputable def FK (P : Params) : Obj := ⟨.type "code",none,.fields #[.str (S "_law_cut") 885,.str (S "_law_cut") 886,.str (S "/claim/cut.py") 887,.int 293 0,.int 1 0,.int 0 0,.int 0 0,.int 3 0,.ref 297,.bool true,.int 276 0,.ref 298,.none,.none,.none,.ref 299,.int 888 0,.int 293 0,.str (S "/claim/cut.py") 889],#[]⟩
noncomputable def FJ (P : Params) : Obj := fO (.type "function") "_law_cut" "_law_cut" (bG 69) 3 (.str (S "law_sh0075_01") 861) (.ref 300)
noncomputable def FI (P : Params) : Obj := ⟨.type "tuple",none,.seq #[.str (S "cut") 894,.str (S "nets") 895,.str (S "marks") 896,.str (S "number") 897,.str (S "word") 898,.str (S "right") 899,.str (S "left") 900,.str (S "whole") 901,.str (S "mixed") 902] 0,#[]⟩
noncomputable def FH (P : Params) : Obj := fO .none "_law_net" "_law_net" (bG 70) 0 .none .none
noncomputable def FG (P : Params) : Obj := cO "_law_net" 891 "_law_net" "/claim/cut.py" 304 1 0 0 3 302 true 276 303 304 305 306 903 304 904
noncomputable def FF (P : Params) : Obj := fO (.type "function") "_law_net" "_law_net" (bG 70) 3 (.str (S "law_sh0075_01") 861) (.ref 307)
noncomputable def FD (P : Params) : Obj := ⟨.type "tuple",none,.seq #[.str (S "net") 909,.str (S "current") 910,.str (S "book") 911,.str (S "share") 912,.str (S "rest") 913] 0,#[]⟩
noncomputable def FC (P : Params) : Obj := fO .none "_law_send" "_law_send" (bG 71) 0 .none .none
noncomputable def FB (P : Params) : Obj := cO "_law_send" 906 "_law_send" "/claim/cut.py" 324 3 0 0 3 309 true 276 310 311 312 313 914 324 915
noncomputable def FA (P : Params) : Obj := fO (.type "function") "_law_send" "_law_send" (bG 71) 3 (.str (S "law_sh0075_01") 861) (.ref 314)
noncomputable def Fz (P : Params) : Obj := fO .none "_law_joined" "_law_joined" (bG 72) 0 .none .none
noncomputable def Fy (P : Params) : Obj := ⟨.type "code",none,.fields #[.str (S "_law_joined") 917,.str (S "_law_joined") 918,.str (S "/claim/cut.py") 919,.int 331 0,.int 2 0,.int 0 0,.int 0 0,.int 3 0,.ref 316,.bool true,.int 276 0,.ref 317,.none,.none,.none,.ref 318,.int 920 0,.int 331 0,.str (S "/claim/cut.py") 921],#[]⟩
noncomputable def Fx (P : Params) : Obj := fO (.type "function") "_law_joined" "_law_joined" (bG 72) 3 (.str (S "law_sh0075_01") 861) (.ref 319)
noncomputable def Fw (P : Params) : Obj := fO .none "_law_tried" "_law_tried" (bG 73) 0 .none .none
noncomputable def Fv (P : Params) : Obj := ⟨.type "code",none,.fields #[.str (S "_law_tried") 923,.str (S "_law_tried") 924,.str (S "/claim/cut.py") 925,.int 340 0,.int 2 0,.int 0 0,.int 0 0,.int 3 0,.ref 321,.bool true,.int 276 0,.ref 322,.none,.none,.none,.ref 323,.int 926 0,.int 340 0,.str (S "/claim/cut.py") 927],#[]⟩
noncomputable def Fu (P : Params) : Obj := fO (.type "function") "_law_tried" "_law_tried" (bG 73) 3 (.str (S "law_sh0075_01") 861) (.ref 324)
noncomputable def Ft (P : Params) : Obj := ⟨.type "dict",none,.dict #[dS P "__name__" 165 "law_sh0075_01" 861,dX P "__doc__" 166 (.none),dX P "__package__" 167 (.none),dB P "__loader__" 168 "__main__.__loader__#opaque",dX P "__spec__" 169 (.none),dR P "__annotations__" 170 6,dR P "__builtins__" 171 4,dS P "__file__" 173 "/claim/cut.py" 172,dX P "__cached__" 174 (.none),dR P "_sre" 275 12,dR P "_wall" 288 38,dR P "_iter_escaped_chars" 300 45,dR P "_strip_quoted_realnames" 312 52,dR P "_check_parenthesis" 322 59,dR P "Whitespace" 428 121,dI P "ENDMARKER" 432 0 431,dI P "LPAR" 434 7 433,dI P "RPAR" 436 8 435,dI P "LSQB" 438 9 437,dI P "RSQB" 440 10 439,dI P "COLON" 442 11 441,dI P "COMMA" 444 12 443,dI P "SEMI" 446 13 445,dI P "PLUS" 448 14 447,dI P "MINUS" 450 15 449,dI P "STAR" 452 16 451,dI P "SLASH" 454 17 453,dI P "VBAR" 456 18 455,dI P "AMPER" 458 19 457,dI P "LESS" 460 20 459,dI P "GREATER" 462 21 461,dI P "EQUAL" 464 22 463,dI P "DOT" 466 23 465,dI P "PERCENT" 468 24 467,dI P "LBRACE" 470 25 469,dI P "RBRACE" 472 26 471,dI P "EQEQUAL" 474 27 473,dI P "NOTEQUAL" 476 28 475,dI P "LESSEQUAL" 478 29 477,dI P "GREATEREQUAL" 480 30 479,dI P "TILDE" 482 31 481,dI P "CIRCUMFLEX" 484 32 483,dI P "LEFTSHIFT" 486 33 485,dI P "RIGHTSHIFT" 488 34 487,dI P "DOUBLESTAR" 490 35 489,dI P "PLUSEQUAL" 492 36 491,dI P "MINEQUAL" 494 37 493,dI P "STAREQUAL" 496 38 495,dI P "SLASHEQUAL" 498 39 497,dI P "PERCENTEQUAL" 500 40 499,dI P "AMPEREQUAL" 502 41 501,dI P "VBAREQUAL" 504 42 503,dI P "CIRCUMFLEXEQUAL" 506 43 505,dI P "LEFTSHIFTEQUAL" 508 44 507,dI P "RIGHTSHIFTEQUAL" 510 45 509,dI P "DOUBLESTAREQUAL" 512 46 511,dI P "DOUBLESLASH" 514 47 513,dI P "DOUBLESLASHEQUAL" 516 48 515,dI P "AT" 518 49 517,dI P "ATEQUAL" 520 50 519,dI P "RARROW" 522 51 521,dI P "ELLIPSIS" 524 52 523,dI P "COLONEQUAL" 526 53 525,dI P "EXCLAMATION" 528 54 527,dI P "NT_OFFSET" 530 256 529,dR P "EXACT_TOKEN_TYPES" 627 126,dR P "ISNONTERMINAL" 634 135,dR P "ISEOF" 641 142,dR P "_name_disallowed_re" 669 147,dR P "_value_disallowed_re" 703 152,dR P "Headers" 860 275,dR P "_law_page" 868 284,dR P "_law_text" 874 289,dR P "_law_places" 884 296,dR P "_law_cut" 890 301,dR P "_law_net" 905 308,dR P "_law_send" 916 315,dR P "_law_joined" 922 320,dR P "_law_tried" 928 325,dR P "law" 934 330] 80,#[]⟩
noncomputable def Fs (P : Params) : Obj := ⟨.none,none,.fields #[.int 2 0,.int 0 0,.ref 37,.int 6 0,.int 0 0,.ref 44,.int 19 0,.int 0 0,.ref 51,.int 37 0,.int 0 0,.ref 58,.int 49 0,.int 0 0,.ref 65,.int 159 0,.int 0 0,.ref 134,.int 161 0,.int 0 0,.ref 141,.int 166 0,.int 0 0,.ref 158,.int 242 0,.int 0 0,.ref 283,.int 265 0,.int 0 0,.ref 288,.int 286 0,.int 0 0,.ref 295,.int 293 0,.int 0 0,.ref 300,.int 304 0,.int 0 0,.ref 307,.int 324 0,.int 0 0,.ref 314,.int 331 0,.int 0 0,.ref 319,.int 340 0,.int 0 0,.ref 324,.int 354 0,.int 0 0,.ref 329],#[]⟩
noncomputable def Fq (P : Params) : Obj := fO .none "law" "law" (bG 74) 0 .none .none
noncomputable def Fp (P : Params) : Obj := ⟨.type "code",none,.fields #[.str (S "law") 929,.str (S "law") 930,.str (S "/claim/cut.py") 931,.int 354 0,.int 1 0,.int 0 0,.int 0 0,.int 3 0,.ref 326,.bool true,.int 276 0,.ref 327,.none,.none,.none,.ref 328,.int 932 0,.int 354 0,.str (S "/claim/cut.py") 933],#[]⟩
noncomputable def Fo (P : Params) : Obj := fO (.type "function") "law" "law" (bG 74) 3 (.str (S "law_sh0075_01") 861) (.ref 329)
noncomputable def Fm (P : Params) : Obj := ⟨.type "dict",none,.dict #[dS P "__name__" 247 "_sre" 246,dX P "__doc__" 248 (.none),dS P "__package__" 250 "" 249,dR P "__loader__" 251 14,dR P "__spec__" 252 26,dB P "compile" 253 "_sre.compile",dB P "template" 254 "_sre.template",dB P "getcodesize" 255 "_sre.getcodesize",dB P "ascii_iscased" 256 "_sre.ascii_iscased",dB P "unicode_iscased" 257 "_sre.unicode_iscased",dB P "ascii_tolower" 258 "_sre.ascii_tolower",dB P "unicode_tolower" 259 "_sre.unicode_tolower",dI P "MAGIC" 261 20230612 260,dI P "CODESIZE" 263 4 262,dI P "MAXREPEAT" 265 4294967295 264,dI P "MAXGROUPS" 267 1073741823 266,dS P "copyright" 269 " SRE 2.2.2 Copyright (c) 1997-2002 by Secret Labs AB " 268] 17,#[]⟩
noncomputable def GJ (P : Params) : BT := (nN P o0 (nN P o1 (nN P o3 (nN P o7 (nN P o7 nE nE) (nN P tS nE nE)) (nN P u4 (nN P tX nE nE) (nN P tM nE nE))) (nN P o5 (nN P o9 (nN P tZ nE nE) (nN P tO nE nE)) (nN P t7 (nN P tV nE nE) nE))) (nN P o2 (nN P o4 (nN P o8 (nN P t0 nE nE) (nN P tQ nE nE)) (nN P t8 (nN P tW nE nE) nE)) (nN P o6 (nN P t9 (nN P tY nE nE) (nN P tN nE nE)) (nN P t6 (nN P tU nE nE) nE))))
noncomputable def Q0 (w : World) (os : OsState) : SharedT := ⟨GJ w.params, 28, cP, #[], bn, 276, os⟩
noncomputable def G5 (P : Params) : BT := (nN P o0 (nN P o1 (nN P o3 (nN P o7 (nN P o7 (nN P wu nE nE) nE) (nN P tS nE nE)) (nN P u4 (nN P tX nE nE) (nN P tM nE nE))) (nN P o5 (nN P o9 (nN P tZ nE nE) (nN P tO nE nE)) (nN P t7 (nN P tV nE nE) (nN P o8 nE nE)))) (nN P o2 (nN P o4 (nN P o8 (nN P t0 nE nE) (nN P tQ nE nE)) (nN P t8 (nN P tW nE nE) (nN P o7 nE nE))) (nN P o6 (nN P t9 (nN P tY nE nE) (nN P tN nE nE)) (nN P t6 (nN P tU nE nE) (nN P wv nE nE)))))
noncomputable def Q1 (w : World) (os : OsState) : SharedT := ⟨G5 w.params, 32, cP, #[], bn, 282, os⟩
noncomputable def G4 (P : Params) : BT := (nN P o0 (nN P o1 (nN P Hp (nN P o7 (nN P o7 (nN P wu nE nE) (nN P o8 nE nE)) (nN P tS (nN P o7 nE nE) (nN P xW nE nE))) (nN P u4 (nN P tX (nN P o7 nE nE) (nN P xY nE nE)) (nN P tM (nN P x8 nE nE) (nN P xT nE nE)))) (nN P o5 (nN P o9 (nN P tZ (nN P o8 nE nE) (nN P o7 nE nE)) (nN P tO (nN P x9 nE nE) (nN P xV nE nE))) (nN P t7 (nN P tV (nN P yb nE nE) (nN P o7 nE nE)) (nN P Hq (nN P x6 nE nE) nE)))) (nN P o2 (nN P o4 (nN P o8 (nN P t0 (nN P o7 nE nE) (nN P x5 nE nE)) (nN P tQ (nN P o8 nE nE) (nN P o7 nE nE))) (nN P t8 (nN P tW (nN P yc nE nE) (nN P xX nE nE)) (nN P o7 (nN P x7 nE nE) nE))) (nN P o6 (nN P t9 (nN P tY (nN P yd nE nE) (nN P xZ nE nE)) (nN P tN (nN P o7 nE nE) (nN P xU nE nE))) (nN P t6 (nN P tU (nN P ya nE nE) (nN P o8 nE nE)) (nN P wv (nN P o7 nE nE) nE)))))
noncomputable def Q2 (w : World) (os : OsState) : SharedT := ⟨G4 w.params, 60, cP, #[], bn, 325, os⟩
noncomputable def G3 (P : Params) : BT := (nN P o0 (nN P o1 (nN P Ho (nN P o7 (nN P o7 (nN P wu (nN P o7 nE nE) (nN P Aq nE nE)) (nN P o8 (nN P Az nE nE) (nN P Ag nE nE))) (nN P tS (nN P o7 (nN P o8 nE nE) (nN P Al nE nE)) (nN P xW (nN P o7 nE nE) (nN P Ab nE nE)))) (nN P u4 (nN P tX (nN P o7 (nN P AG nE nE) (nN P o8 nE nE)) (nN P xY (nN P Aw nE nE) (nN P o7 nE nE))) (nN P tM (nN P x8 (nN P AC nE nE) (nN P Aj nE nE)) (nN P xT (nN P o7 nE nE) (nN P z0 nE nE))))) (nN P o5 (nN P o9 (nN P tZ (nN P o8 (nN P AI nE nE) (nN P Ao nE nE)) (nN P o7 (nN P Ay nE nE) (nN P o8 nE nE))) (nN P tO (nN P x9 (nN P o7 nE nE) (nN P o7 nE nE)) (nN P xV (nN P At nE nE) (nN P z8 nE nE)))) (nN P t7 (nN P tV (nN P yb (nN P AF nE nE) (nN P o7 nE nE)) (nN P o7 (nN P o8 nE nE) (nN P Ad nE nE))) (nN P Fk (nN P x6 (nN P o7 nE nE) (nN P Ai nE nE)) (nN P wt (nN P Ar nE nE) (nN P zY nE nE)))))) (nN P o2 (nN P o4 (nN P o8 (nN P t0 (nN P o7 (nN P AJ nE nE) (nN P Ap nE nE)) (nN P x5 (nN P o7 nE nE) (nN P o7 nE nE))) (nN P tQ (nN P o8 (nN P AE nE nE) (nN P Ak nE nE)) (nN P o7 (nN P Au nE nE) (nN P Aa nE nE)))) (nN P t8 (nN P tW (nN P yc (nN P o7 nE nE) (nN P An nE nE)) (nN P xX (nN P o7 nE nE) (nN P Ae nE nE))) (nN P o7 (nN P x7 (nN P AA nE nE) (nN P o7 nE nE)) (nN P o7 (nN P o8 nE nE) (nN P zZ nE nE))))) (nN P o6 (nN P t9 (nN P tY (nN P yd (nN P AH nE nE) (nN P o7 nE nE)) (nN P xZ (nN P Ax nE nE) (nN P Af nE nE))) (nN P tN (nN P o7 (nN P AD nE nE) (nN P o8 nE nE)) (nN P xU (nN P As nE nE) (nN P z7 nE nE)))) (nN P t6 (nN P tU (nN P ya (nN P o7 nE nE) (nN P Am nE nE)) (nN P o8 (nN P Av nE nE) (nN P Ac nE nE))) (nN P wv (nN P o7 (nN P o8 nE nE) (nN P Ah nE nE)) (nN P AK (nN P o7 nE nE) nE))))))
noncomputable def Q3 (w : World) (os : OsState) : SharedT := ⟨G3 w.params, 126, cP, #[], bn, 429, os⟩
noncomputable def G2 (P : Params) : BT := (nN P o0 (nN P o1 (nN P F2 (nN P o7 (nN P o7 (nN P wu (nN P o7 nE nE) (nN P Aq nE nE)) (nN P o8 (nN P Az nE nE) (nN P Ag nE nE))) (nN P tS (nN P o7 (nN P o8 nE nE) (nN P Al nE nE)) (nN P xW (nN P o7 nE nE) (nN P Ab nE nE)))) (nN P u4 (nN P tX (nN P o7 (nN P AG nE nE) (nN P o8 nE nE)) (nN P xY (nN P Aw nE nE) (nN P o7 nE nE))) (nN P tM (nN P x8 (nN P AC nE nE) (nN P Aj nE nE)) (nN P xT (nN P o7 nE nE) (nN P z0 nE nE))))) (nN P o5 (nN P o9 (nN P tZ (nN P o8 (nN P AI nE nE) (nN P Ao nE nE)) (nN P o7 (nN P Ay nE nE) (nN P o8 nE nE))) (nN P tO (nN P x9 (nN P o7 nE nE) (nN P o7 nE nE)) (nN P xV (nN P At nE nE) (nN P z8 nE nE)))) (nN P t7 (nN P tV (nN P yb (nN P AF nE nE) (nN P o7 nE nE)) (nN P o7 (nN P o8 nE nE) (nN P Ad nE nE))) (nN P Fk (nN P x6 (nN P o7 nE nE) (nN P Ai nE nE)) (nN P wt (nN P Ar nE nE) (nN P zY nE nE)))))) (nN P o2 (nN P o4 (nN P o8 (nN P t0 (nN P o7 (nN P AJ nE nE) (nN P Ap nE nE)) (nN P x5 (nN P o7 nE nE) (nN P o7 nE nE))) (nN P tQ (nN P o8 (nN P AE nE nE) (nN P Ak nE nE)) (nN P o7 (nN P Au nE nE) (nN P Aa nE nE)))) (nN P t8 (nN P tW (nN P yc (nN P o7 nE nE) (nN P An nE nE)) (nN P xX (nN P o7 nE nE) (nN P Ae nE nE))) (nN P o7 (nN P x7 (nN P AA nE nE) (nN P o7 nE nE)) (nN P o7 (nN P o8 nE nE) (nN P zZ nE nE))))) (nN P o6 (nN P t9 (nN P tY (nN P yd (nN P AH nE nE) (nN P o7 nE nE)) (nN P xZ (nN P Ax nE nE) (nN P Af nE nE))) (nN P tN (nN P o7 (nN P AD nE nE) (nN P o8 nE nE)) (nN P xU (nN P As nE nE) (nN P z7 nE nE)))) (nN P t6 (nN P tU (nN P ya (nN P o7 nE nE) (nN P Am nE nE)) (nN P o8 (nN P Av nE nE) (nN P Ac nE nE))) (nN P wv (nN P o7 (nN P o8 nE nE) (nN P Ah nE nE)) (nN P AK (nN P o7 nE nE) nE))))))
noncomputable def Q4 (w : World) (os : OsState) : SharedT := ⟨G2 w.params, 126, cP, #[], bn, 531, os⟩
noncomputable def G1 (P : Params) : BT := (nN P o0 (nN P o1 (nN P F1 (nN P o7 (nN P o7 (nN P wu (nN P o7 (nN P u0 nE nE) nE) (nN P Aq nE nE)) (nN P o8 (nN P Az nE nE) (nN P Ag nE nE))) (nN P tS (nN P o7 (nN P o8 nE nE) (nN P Al nE nE)) (nN P xW (nN P o7 nE nE) (nN P Ab nE nE)))) (nN P u4 (nN P tX (nN P o7 (nN P AG nE nE) (nN P o8 nE nE)) (nN P xY (nN P Aw nE nE) (nN P o7 nE nE))) (nN P tM (nN P x8 (nN P AC nE nE) (nN P Aj nE nE)) (nN P xT (nN P o7 nE nE) (nN P z0 nE nE))))) (nN P o5 (nN P o9 (nN P tZ (nN P o8 (nN P AI nE nE) (nN P Ao nE nE)) (nN P o7 (nN P Ay nE nE) (nN P o8 nE nE))) (nN P tO (nN P x9 (nN P o7 nE nE) (nN P o7 nE nE)) (nN P xV (nN P At nE nE) (nN P z8 nE nE)))) (nN P t7 (nN P tV (nN P yb (nN P AF nE nE) (nN P o7 nE nE)) (nN P o7 (nN P o8 nE nE) (nN P Ad nE nE))) (nN P Fk (nN P x6 (nN P o7 nE nE) (nN P Ai nE nE)) (nN P wt (nN P Ar nE nE) (nN P zY nE nE)))))) (nN P o2 (nN P o4 (nN P o8 (nN P t0 (nN P o7 (nN P AJ (nN P uZ nE nE) nE) (nN P Ap nE nE)) (nN P x5 (nN P o7 nE nE) (nN P o7 nE nE))) (nN P tQ (nN P o8 (nN P AE nE nE) (nN P Ak nE nE)) (nN P o7 (nN P Au nE nE) (nN P Aa nE nE)))) (nN P t8 (nN P tW (nN P yc (nN P o7 nE nE) (nN P An nE nE)) (nN P xX (nN P o7 nE nE) (nN P Ae nE nE))) (nN P o7 (nN P x7 (nN P AA nE nE) (nN P o7 nE nE)) (nN P o7 (nN P o8 nE nE) (nN P zZ nE nE))))) (nN P o6 (nN P t9 (nN P tY (nN P yd (nN P AH nE nE) (nN P o7 nE nE)) (nN P xZ (nN P Ax nE nE) (nN P Af nE nE))) (nN P tN (nN P o7 (nN P AD nE nE) (nN P o8 nE nE)) (nN P xU (nN P As nE nE) (nN P z7 nE nE)))) (nN P t6 (nN P tU (nN P ya (nN P o7 nE nE) (nN P Am nE nE)) (nN P o8 (nN P Av nE nE) (nN P Ac nE nE))) (nN P wv (nN P o7 (nN P o8 nE nE) (nN P Ah nE nE)) (nN P AK (nN P o7 nE nE) (nN P u3 nE nE)))))))
noncomputable def Q5 (w : World) (os : OsState) : SharedT := ⟨G1 w.params, 129, cP, #[], bn, 628, os⟩
noncomputable def G0 (P : Params) : BT := (nN P o0 (nN P o1 (nN P FZ (nN P o7 (nN P o7 (nN P wu (nN P o7 (nN P u0 nE nE) nE) (nN P Aq nE nE)) (nN P o8 (nN P Az (nN P yj nE nE) nE) (nN P Ag nE nE))) (nN P tS (nN P o7 (nN P o8 (nN P yo nE nE) nE) (nN P Al nE nE)) (nN P xW (nN P o7 (nN P yf nE nE) nE) (nN P Ab nE nE)))) (nN P u4 (nN P tX (nN P o7 (nN P AG (nN P yr nE nE) nE) (nN P o8 nE nE)) (nN P xY (nN P Aw (nN P yh nE nE) nE) (nN P o7 nE nE))) (nN P tM (nN P x8 (nN P AC (nN P o7 nE nE) nE) (nN P Aj nE nE)) (nN P xT (nN P o7 nE nE) (nN P z0 nE nE))))) (nN P o5 (nN P o9 (nN P tZ (nN P o8 (nN P AI (nN P o7 nE nE) nE) (nN P Ao nE nE)) (nN P o7 (nN P Ay (nN P jF nE nE) nE) (nN P o8 nE nE))) (nN P tO (nN P x9 (nN P o7 (nN P o8 nE nE) nE) (nN P o7 nE nE)) (nN P xV (nN P At nE nE) (nN P z8 nE nE)))) (nN P t7 (nN P tV (nN P yb (nN P AF (nN P yq nE nE) nE) (nN P o7 nE nE)) (nN P o7 (nN P o8 (nN P o6 nE nE) nE) (nN P Ad nE nE))) (nN P F0 (nN P x6 (nN P o7 (nN P yl nE nE) nE) (nN P Ai nE nE)) (nN P wt (nN P Ar nE nE) (nN P zY nE nE)))))) (nN P o2 (nN P o4 (nN P o8 (nN P t0 (nN P o7 (nN P AJ (nN P uZ nE nE) nE) (nN P Ap nE nE)) (nN P x5 (nN P o7 (nN P o6 nE nE) nE) (nN P o7 nE nE))) (nN P tQ (nN P o8 (nN P AE (nN P o7 nE nE) nE) (nN P Ak nE nE)) (nN P o7 (nN P Au (nN P ye nE nE) nE) (nN P Aa nE nE)))) (nN P t8 (nN P tW (nN P yc (nN P o7 (nN P o7 nE nE) nE) (nN P An nE nE)) (nN P xX (nN P o7 (nN P yg nE nE) nE) (nN P Ae nE nE))) (nN P o7 (nN P x7 (nN P AA (nN P ym nE nE) nE) (nN P o7 nE nE)) (nN P o7 (nN P o8 nE nE) (nN P zZ nE nE))))) (nN P o6 (nN P t9 (nN P tY (nN P yd (nN P AH (nN P o8 nE nE) nE) (nN P o7 nE nE)) (nN P xZ (nN P Ax (nN P yi nE nE) nE) (nN P Af nE nE))) (nN P tN (nN P o7 (nN P AD (nN P yn nE nE) nE) (nN P o8 nE nE)) (nN P xU (nN P As nE nE) (nN P z7 nE nE)))) (nN P t6 (nN P tU (nN P ya (nN P o7 (nN P yp nE nE) nE) (nN P Am nE nE)) (nN P o8 (nN P Av (nN P jF nE nE) nE) (nN P Ac nE nE))) (nN P wv (nN P o7 (nN P o8 (nN P yk nE nE) nE) (nN P Ah nE nE)) (nN P AK (nN P o7 nE nE) (nN P u3 nE nE)))))))
noncomputable def Q6 (w : World) (os : OsState) : SharedT := ⟨G0 w.params, 153, cP, #[], bn, 704, os⟩
noncomputable def GZ (P : Params) : BT := (nN P o0 (nN P o1 (nN P FY (nN P o7 (nN P o7 (nN P wu (nN P o7 (nN P u0 (nN P o7 nE nE) nE) (nN P CP nE nE)) (nN P Aq (nN P C6 nE nE) (nN P o7 nE nE))) (nN P o8 (nN P Az (nN P yj (nN P B2 nE nE) nE) (nN P CE nE nE)) (nN P Ag (nN P o7 nE nE) (nN P Ck nE nE)))) (nN P tS (nN P o7 (nN P o8 (nN P yo (nN P B7 nE nE) nE) (nN P CJ nE nE)) (nN P Al (nN P C2 nE nE) (nN P Cq nE nE))) (nN P xW (nN P o7 (nN P yf (nN P BS nE nE) nE) (nN P jF nE nE)) (nN P Ab (nN P o8 nE nE) (nN P o7 nE nE))))) (nN P u4 (nN P tX (nN P o7 (nN P AG (nN P yr (nN P o7 nE nE) nE) (nN P o8 nE nE)) (nN P o8 (nN P C5 nE nE) (nN P Cs nE nE))) (nN P xY (nN P Aw (nN P yh (nN P BX nE nE) nE) (nN P o7 nE nE)) (nN P o7 (nN P CW nE nE) (nN P o7 nE nE)))) (nN P tM (nN P x8 (nN P AC (nN P o7 (nN P o8 nE nE) nE) (nN P CH nE nE)) (nN P Aj (nN P o7 nE nE) (nN P Co nE nE))) (nN P xT (nN P o7 (nN P C9 nE nE) (nN P o7 nE nE)) (nN P z0 (nN P CR nE nE) (nN P Cd nE nE)))))) (nN P o5 (nN P o9 (nN P tZ (nN P o8 (nN P AI (nN P o7 (nN P Ca nE nE) nE) (nN P CN nE nE)) (nN P Ao (nN P o7 nE nE) (nN P Cu nE nE))) (nN P o7 (nN P Ay (nN P jF (nN P BZ nE nE) nE) (nN P o8 nE nE)) (nN P o8 (nN P CX nE nE) (nN P o8 nE nE)))) (nN P tO (nN P x9 (nN P o7 (nN P o8 (nN P B5 nE nE) nE) (nN P o7 nE nE)) (nN P o7 (nN P o8 nE nE) (nN P o7 nE nE))) (nN P xV (nN P At (nN P o7 nE nE) (nN P o8 nE nE)) (nN P z8 (nN P o7 nE nE) (nN P Cf nE nE))))) (nN P t7 (nN P tV (nN P yb (nN P AF (nN P yq (nN P B8 nE nE) nE) (nN P o7 nE nE)) (nN P o7 (nN P C4 nE nE) (nN P o8 nE nE))) (nN P o7 (nN P o8 (nN P o6 (nN P BV nE nE) nE) (nN P CB nE nE)) (nN P Ad (nN P CU nE nE) (nN P Ch nE nE)))) (nN P FX (nN P x6 (nN P o7 (nN P yl (nN P o7 nE nE) nE) (nN P CG nE nE)) (nN P Ai (nN P CZ nE nE) (nN P Cn nE nE))) (nN P wt (nN P Ar (nN P C8 nE nE) (nN P Cw nE nE)) (nN P zY (nN P o7 nE nE) (nN P o8 nE nE))))))) (nN P o2 (nN P o4 (nN P o8 (nN P t0 (nN P o7 (nN P AJ (nN P uZ (nN P Cb nE nE) nE) (nN P CO nE nE)) (nN P Ap (nN P jF nE nE) (nN P o8 nE nE))) (nN P x5 (nN P o7 (nN P o6 (nN P B1 nE nE) nE) (nN P o7 nE nE)) (nN P o7 (nN P o8 nE nE) (nN P o7 nE nE)))) (nN P tQ (nN P o8 (nN P AE (nN P o7 (nN P B6 nE nE) nE) (nN P CI nE nE)) (nN P Ak (nN P o7 nE nE) (nN P Cp nE nE))) (nN P o7 (nN P Au (nN P ye nE nE) (nN P o7 nE nE)) (nN P Aa (nN P CT nE nE) (nN P o8 nE nE))))) (nN P t8 (nN P tW (nN P yc (nN P o7 (nN P o7 (nN P o8 nE nE) nE) (nN P CM nE nE)) (nN P An (nN P o7 nE nE) (nN P o7 nE nE))) (nN P xX (nN P o7 (nN P yg (nN P BW nE nE) nE) (nN P CC nE nE)) (nN P Ae (nN P CV nE nE) (nN P Ci nE nE)))) (nN P o7 (nN P x7 (nN P AA (nN P ym (nN P B4 nE nE) nE) (nN P o7 nE nE)) (nN P o7 (nN P C0 nE nE) (nN P o7 nE nE))) (nN P o7 (nN P o8 (nN P o7 nE nE) (nN P Cy nE nE)) (nN P zZ (nN P CQ nE nE) (nN P o7 nE nE)))))) (nN P o6 (nN P t9 (nN P tY (nN P yd (nN P AH (nN P o8 (nN P B9 nE nE) nE) (nN P o7 nE nE)) (nN P o7 (nN P o8 nE nE) (nN P Ct nE nE))) (nN P xZ (nN P Ax (nN P yi (nN P BY nE nE) nE) (nN P CD nE nE)) (nN P Af (nN P o7 nE nE) (nN P Cj nE nE)))) (nN P tN (nN P o7 (nN P AD (nN P yn (nN P o7 nE nE) nE) (nN P o8 nE nE)) (nN P o8 (nN P C1 nE nE) (nN P o8 nE nE))) (nN P xU (nN P As (nN P wt nE nE) (nN P Cz nE nE)) (nN P z7 (nN P CS nE nE) (nN P Ce nE nE))))) (nN P t6 (nN P tU (nN P ya (nN P o7 (nN P yp (nN P o7 nE nE) nE) (nN P CL nE nE)) (nN P Am (nN P C3 nE nE) (nN P Cr nE nE))) (nN P o8 (nN P Av (nN P jF (nN P BU nE nE) nE) (nN P CA nE nE)) (nN P Ac (nN P o7 nE nE) (nN P Cg nE nE)))) (nN P wv (nN P o7 (nN P o8 (nN P yk (nN P B3 nE nE) nE) (nN P CF nE nE)) (nN P Ah (nN P CY nE nE) (nN P Cm nE nE))) (nN P AK (nN P o7 (nN P C7 nE nE) (nN P Cv nE nE)) (nN P u3 (nN P o8 nE nE) (nN P Cc nE nE))))))))
noncomputable def Q7 (w : World) (os : OsState) : SharedT := ⟨GZ w.params, 280, cP, #[], bn, 861, os⟩
noncomputable def GH (P : Params) : BT := (nN P o0 (nN P o1 (nN P Ft (nN P o7 (nN P o7 (nN P wu (nN P o7 (nN P u0 (nN P o7 nE nE) nE) (nN P CP (nN P Fy nE nE) nE)) (nN P Aq (nN P C6 (nN P FT nE nE) nE) (nN P o7 nE nE))) (nN P o8 (nN P Az (nN P yj (nN P B2 nE nE) nE) (nN P CE nE nE)) (nN P Ag (nN P o7 (nN P o8 nE nE) nE) (nN P Ck nE nE)))) (nN P tS (nN P o7 (nN P o8 (nN P yo (nN P B7 nE nE) nE) (nN P CJ (nN P o8 nE nE) nE)) (nN P Al (nN P C2 (nN P FN nE nE) nE) (nN P Cq nE nE))) (nN P xW (nN P o7 (nN P yf (nN P BS nE nE) nE) (nN P jF nE nE)) (nN P Ab (nN P o8 (nN P FD nE nE) nE) (nN P o7 nE nE))))) (nN P u4 (nN P tX (nN P o7 (nN P AG (nN P yr (nN P o7 nE nE) nE) (nN P o8 (nN P Fw nE nE) nE)) (nN P o8 (nN P C5 (nN P o8 nE nE) nE) (nN P Cs nE nE))) (nN P xY (nN P Aw (nN P yh (nN P BX nE nE) nE) (nN P o7 nE nE)) (nN P o7 (nN P CW (nN P FG nE nE) nE) (nN P o7 nE nE)))) (nN P tM (nN P x8 (nN P AC (nN P o7 (nN P o8 nE nE) nE) (nN P CH nE nE)) (nN P Aj (nN P o7 (nN P FL nE nE) nE) (nN P Co nE nE))) (nN P xT (nN P o7 (nN P C9 (nN P FV nE nE) nE) (nN P o7 nE nE)) (nN P z0 (nN P CR (nN P FA nE nE) nE) (nN P Cd nE nE)))))) (nN P o5 (nN P o9 (nN P tZ (nN P o8 (nN P AI (nN P o7 (nN P Ca nE nE) nE) (nN P CN (nN P o7 nE nE) nE)) (nN P Ao (nN P o7 (nN P FR nE nE) nE) (nN P Cu nE nE))) (nN P o7 (nN P Ay (nN P jF (nN P BZ nE nE) nE) (nN P o8 nE nE)) (nN P o8 (nN P CX (nN P o7 nE nE) nE) (nN P o8 nE nE)))) (nN P tO (nN P x9 (nN P o7 (nN P o8 (nN P B5 nE nE) nE) (nN P o7 (nN P Fp nE nE) nE)) (nN P o7 (nN P o8 (nN P o7 nE nE) nE) (nN P o7 nE nE))) (nN P xV (nN P At (nN P o7 (nN P o8 nE nE) nE) (nN P o8 nE nE)) (nN P z8 (nN P o7 (nN P FC nE nE) nE) (nN P Cf nE nE))))) (nN P t7 (nN P tV (nN P yb (nN P AF (nN P yq (nN P B8 nE nE) nE) (nN P o7 (nN P Fu nE nE) nE)) (nN P o7 (nN P C4 (nN P o7 nE nE) nE) (nN P o8 nE nE))) (nN P o7 (nN P o8 (nN P o6 (nN P BV nE nE) nE) (nN P CB nE nE)) (nN P Ad (nN P CU (nN P o7 nE nE) nE) (nN P Ch nE nE)))) (nN P Fs (nN P x6 (nN P o7 (nN P yl (nN P o7 nE nE) nE) (nN P CG nE nE)) (nN P Ai (nN P CZ (nN P FJ nE nE) nE) (nN P Cn nE nE))) (nN P wt (nN P Ar (nN P C8 (nN P o7 nE nE) nE) (nN P Cw nE nE)) (nN P zY (nN P o7 (nN P o8 nE nE) nE) (nN P o8 nE nE))))))) (nN P o2 (nN P o4 (nN P o8 (nN P t0 (nN P o7 (nN P AJ (nN P uZ (nN P Cb nE nE) nE) (nN P CO (nN P Fx nE nE) nE)) (nN P Ap (nN P jF (nN P FS nE nE) nE) (nN P o8 nE nE))) (nN P x5 (nN P o7 (nN P o6 (nN P B1 nE nE) nE) (nN P o7 nE nE)) (nN P o7 (nN P o8 (nN P FI nE nE) nE) (nN P o7 nE nE)))) (nN P tQ (nN P o8 (nN P AE (nN P o7 (nN P B6 nE nE) nE) (nN P CI (nN P Fq nE nE) nE)) (nN P Ak (nN P o7 (nN P FM nE nE) nE) (nN P Cp nE nE))) (nN P o7 (nN P Au (nN P ye (nN P o7 nE nE) nE) (nN P o7 nE nE)) (nN P Aa (nN P CT (nN P o7 nE nE) nE) (nN P o8 nE nE))))) (nN P t8 (nN P tW (nN P yc (nN P o7 (nN P o7 (nN P o8 nE nE) nE) (nN P CM (nN P Fv nE nE) nE)) (nN P An (nN P o7 (nN P FQ nE nE) nE) (nN P o7 nE nE))) (nN P xX (nN P o7 (nN P yg (nN P BW nE nE) nE) (nN P CC nE nE)) (nN P Ae (nN P CV (nN P FF nE nE) nE) (nN P Ci nE nE)))) (nN P o7 (nN P x7 (nN P AA (nN P ym (nN P B4 nE nE) nE) (nN P o7 nE nE)) (nN P o7 (nN P C0 (nN P FK nE nE) nE) (nN P o7 nE nE))) (nN P o7 (nN P o8 (nN P o7 (nN P FU nE nE) nE) (nN P Cy nE nE)) (nN P zZ (nN P CQ (nN P o7 nE nE) nE) (nN P o7 nE nE)))))) (nN P o6 (nN P t9 (nN P tY (nN P yd (nN P AH (nN P o8 (nN P B9 nE nE) nE) (nN P o7 (nN P o8 nE nE) nE)) (nN P o7 (nN P o8 (nN P o7 nE nE) nE) (nN P Ct nE nE))) (nN P xZ (nN P Ax (nN P yi (nN P BY nE nE) nE) (nN P CD nE nE)) (nN P Af (nN P o7 (nN P FH nE nE) nE) (nN P Cj nE nE)))) (nN P tN (nN P o7 (nN P AD (nN P yn (nN P o7 nE nE) nE) (nN P o8 (nN P Fo nE nE) nE)) (nN P o8 (nN P C1 (nN P o8 nE nE) nE) (nN P o8 nE nE))) (nN P xU (nN P As (nN P wt (nN P FW nE nE) nE) (nN P Cz nE nE)) (nN P z7 (nN P CS (nN P FB nE nE) nE) (nN P Ce nE nE))))) (nN P t6 (nN P tU (nN P ya (nN P o7 (nN P yp (nN P o7 nE nE) nE) (nN P CL (nN P o7 nE nE) nE)) (nN P Am (nN P C3 (nN P FP nE nE) nE) (nN P Cr nE nE))) (nN P o8 (nN P Av (nN P jF (nN P BU nE nE) nE) (nN P CA nE nE)) (nN P Ac (nN P o7 (nN P o8 nE nE) nE) (nN P Cg nE nE)))) (nN P wv (nN P o7 (nN P o8 (nN P yk (nN P B3 nE nE) nE) (nN P CF nE nE)) (nN P Ah (nN P CY (nN P o7 nE nE) nE) (nN P Cm nE nE))) (nN P AK (nN P o7 (nN P C7 (nN P o8 nE nE) nE) (nN P Cv nE nE)) (nN P u3 (nN P o8 (nN P Fz nE nE) nE) (nN P Cc nE nE))))))))
noncomputable def Q8 (w : World) (os : OsState) : SharedT := ⟨GH w.params, 331, cP, #[], bn, 935, os⟩
noncomputable def GG (P : Params) : BT := (nN P o0 (nN P o1 (nN P o3 (nN P o7 (nN P o7 nE nE) (nN P tS nE nE)) (nN P Fm (nN P tX nE nE) (nN P tM nE nE))) (nN P o5 (nN P o9 (nN P tZ nE nE) (nN P tO nE nE)) (nN P t7 (nN P tV nE nE) nE))) (nN P o2 (nN P o4 (nN P o8 (nN P t0 nE nE) (nN P tQ nE nE)) (nN P t8 (nN P tW nE nE) nE)) (nN P o6 (nN P t9 (nN P tY nE nE) (nN P tN nE nE)) (nN P t6 (nN P tU nE nE) nE))))
noncomputable def Q9 (w : World) (os : OsState) : SharedT := ⟨GG w.params, 28, cP, #[], bn, 276, os⟩
noncomputable def hD : Env := { scope := PW.main.scope, locals := mainNs, globals := mainNs, cells := [], code := .ref 30, frame := some 31 }
noncomputable def bo : Code := .body topB hD
noncomputable def B0 : List Frame := [topFrame ⟨0, 0, 0, 0⟩]
noncomputable def Bt : List Stmt := (topB.drop 0).take 6
noncomputable def uv : List Stmt := (topB.drop 6).take 1
noncomputable def Br : List Stmt := (topB.drop 7).take 51
noncomputable def uu : List Stmt := (topB.drop 58).take 1
noncomputable def Bq : List Stmt := (topB.drop 59).take 5
noncomputable def Bp : List Stmt := (topB.drop 64).take 1
noncomputable def Bo : List Stmt := (topB.drop 65).take 10
end
section
theorem EW (w : World) (os : OsState) : segRunT treeTable PW w 28 (some (.ref 6)) 1 146 (Q1 w os) ⟨(execs Bt hD).wrap doneF deadEnd id id, bo, ⟨0, 0, 0, 0⟩, B0⟩ = some (Flow.next, Q2 w os, bo, ⟨48, 0, 48, 8⟩) := by
  rw [PySem.W.Fast.te10110043849684766642, PySem.W.Fast.te14364793385576792824, PySem.W.Fast.te12563942051412417395]
  kernel_rfl
theorem BB (w : World) (os : OsState) : segRunT treeTable PW (w.withFollow "special-get-raises" false) 28 (some (.ref 6)) 1 497 (Q2 w os) ⟨(execs uv hD).wrap doneF deadEnd id id, bo, ⟨48, 0, 48, 8⟩, B0⟩ = some (Flow.next, Q3 w os, bo, ⟨49, 0, 106, 16⟩) := by
  rw [PySem.W.Fast.te10110043849684766642, PySem.W.Fast.te14364793385576792824, PySem.W.Fast.te12563942051412417395]
  kernel_rfl
theorem BA (w : World) (os : OsState) : segRunT treeTable PW (w.withFollow "special-get-raises" true) 28 (some (.ref 6)) 1 497 (Q2 w os) ⟨(execs uv hD).wrap doneF deadEnd id id, bo, ⟨48, 0, 48, 8⟩, B0⟩ = some (Flow.next, Q3 w os, bo, ⟨49, 0, 106, 16⟩) := by
  rw [PySem.W.Fast.te10110043849684766642, PySem.W.Fast.te14364793385576792824, PySem.W.Fast.te12563942051412417395]
  kernel_rfl
theorem EV (w : World) (os : OsState) : segRunT treeTable PW w 28 (some (.ref 6)) 1 497 (Q2 w os) ⟨(execs uv hD).wrap doneF deadEnd id id, bo, ⟨48, 0, 48, 8⟩, B0⟩ = some (Flow.next, Q3 w os, bo, ⟨49, 0, 106, 16⟩) := by
  have e := World.withFollow_self w "special-get-raises"
  cases h : w.params.followText "special-get-raises" <;> rw [h] at e
  · exact e ▸ BB w os
  · exact e ▸ BA w os
theorem EU (w : World) (os : OsState) : segRunT treeTable PW w 28 (some (.ref 6)) 1 460 (Q3 w os) ⟨(execs Br hD).wrap doneF deadEnd id id, bo, ⟨49, 0, 106, 16⟩, B0⟩ = some (Flow.next, Q4 w os, bo, ⟨157, 0, 157, 9⟩) := by
  rw [PySem.W.Fast.te10110043849684766642, PySem.W.Fast.te14364793385576792824, PySem.W.Fast.te12563942051412417395]
  kernel_rfl
theorem Bz (w : World) (os : OsState) : segRunT treeTable PW (w.withFollow "special-get-raises" false) 28 (some (.ref 6)) 1 979 (Q4 w os) ⟨(execs uu hD).wrap doneF deadEnd id id, bo, ⟨157, 0, 157, 9⟩, B0⟩ = some (Flow.next, Q5 w os, bo, ⟨158, 0, 158, 17⟩) := by
  rw [PySem.W.Fast.te10110043849684766642, PySem.W.Fast.te14364793385576792824, PySem.W.Fast.te12563942051412417395]
  kernel_rfl
theorem By (w : World) (os : OsState) : segRunT treeTable PW (w.withFollow "special-get-raises" true) 28 (some (.ref 6)) 1 979 (Q4 w os) ⟨(execs uu hD).wrap doneF deadEnd id id, bo, ⟨157, 0, 157, 9⟩, B0⟩ = some (Flow.next, Q5 w os, bo, ⟨158, 0, 158, 17⟩) := by
  rw [PySem.W.Fast.te10110043849684766642, PySem.W.Fast.te14364793385576792824, PySem.W.Fast.te12563942051412417395]
  kernel_rfl
theorem ET (w : World) (os : OsState) : segRunT treeTable PW w 28 (some (.ref 6)) 1 979 (Q4 w os) ⟨(execs uu hD).wrap doneF deadEnd id id, bo, ⟨157, 0, 157, 9⟩, B0⟩ = some (Flow.next, Q5 w os, bo, ⟨158, 0, 158, 17⟩) := by
  have e := World.withFollow_self w "special-get-raises"
  cases h : w.params.followText "special-get-raises" <;> rw [h] at e
  · exact e ▸ Bz w os
  · exact e ▸ By w os
theorem ES (w : World) (os : OsState) : segRunT treeTable PW w 28 (some (.ref 6)) 1 214 (Q5 w os) ⟨(execs Bq hD).wrap doneF deadEnd id id, bo, ⟨158, 0, 158, 17⟩, B0⟩ = some (Flow.next, Q6 w os, bo, ⟨165, 0, 165, 20⟩) := by
  rw [PySem.W.Fast.te10110043849684766642, PySem.W.Fast.te14364793385576792824, PySem.W.Fast.te12563942051412417395]
  kernel_rfl
theorem ER (w : World) (os : OsState) : segRunT treeTable PW w 28 (some (.ref 6)) 1 729 (Q6 w os) ⟨(execs Bp hD).wrap doneF deadEnd id id, bo, ⟨165, 0, 165, 20⟩, B0⟩ = some (Flow.next, Q7 w os, bo, ⟨166, 0, 240, 16⟩) := by
  rw [PySem.W.Fast.te10110043849684766642, PySem.W.Fast.te14364793385576792824, PySem.W.Fast.te12563942051412417395]
  kernel_rfl
theorem EQ (w : World) (os : OsState) : segRunT treeTable PW w 28 (some (.ref 6)) 1 268 (Q7 w os) ⟨(execs Bo hD).wrap doneF deadEnd id id, bo, ⟨166, 0, 240, 16⟩, B0⟩ = some (Flow.next, Q8 w os, bo, ⟨354, 0, 370, 86⟩) := by
  rw [PySem.W.Fast.te10110043849684766642, PySem.W.Fast.te14364793385576792824, PySem.W.Fast.te12563942051412417395]
  kernel_rfl
end
section
noncomputable def wJ (P : Params) : Heap := absHeap (GJ P) 28 cP
noncomputable def GS (P : Params) : Heap := absHeap (GG P) 28 cP
noncomputable def kQ (P : Params) : Heap := absHeap (GH P) 331 cP
noncomputable def q1 : Program := PySem.W.view PW [75]
theorem vn {tb : String → Option Builtin} {p : Program} {w : World} {n : Nat} {s s' : SharedT} {t : Thread} (h : (impGoT tb p w n s t).map (fun x => (x.1, x.2.atExitBegin.map (·.isEmpty))) = some (s', some true)) : importEnds tb p w (n + 1) s.abs t = some s'.abs := by
 obtain ⟨⟨s₁, t₁⟩, h1, h2⟩ := Option.map_eq_some_iff.mp h
 have e1 : s₁ = s' := congrArg Prod.fst h2
 have e2 : t₁.atExitBegin.map (·.isEmpty) = some true := congrArg Prod.snd h2
 subst e1
 refine imp_go (N := 1) (impGo_of h1) ?_
 obtain ⟨l, e3, e4⟩ := Option.map_eq_some_iff.mp e2
 obtain rfl := List.isEmpty_iff.mp e4
 unfold importEnds
 rw [e3]
theorem Ge (w : World) (os : OsState) : (impGoT treeTable (opening PW) w 798 ⟨.nil, 0, cP, #[], bn, 1, os⟩ (start (opening PW)).2).map (fun x => (x.1, x.2.atExitBegin.map (·.isEmpty))) = some (Q9 w os, some true) := by
 rw [PySem.W.Fast.te14789777615569096658, PySem.W.Fast.te14364793385576792824, PySem.W.Fast.te1435165496053646825]
 kernel_rfl
theorem Gd (w : World) : importEnds treeTable (opening PW) w 799 (start (opening PW)).1 (start (opening PW)).2 = some ⟨GS w.params, #[], bn, 276, (start (opening PW)).1.os⟩ := by
 have h := vn (Ge w (start (opening PW)).1.os)
 have e : (start (opening PW)).1 = (⟨.nil, 0, cP, #[], bn, 1, (start (opening PW)).1.os⟩ : SharedT).abs := by kernel_rfl
 rw [← e] at h
 exact h
theorem zm (w : World) : (fun os => (fenceModules? PW ⟨GS w.params, #[], bn, 276, os⟩).map (fun s => (s.heap, s.gens, s.drawn, s.toks))) = fun _ => some (wJ w.params, #[], bn, 276) := by
 rw [PySem.W.Fast.te14289696077712309145]
 kernel_rfl
theorem BI : ∀ w : World, (fencedOpening treeTable PW w 6000).map (fun s => (s.heap, s.gens, s.drawn, s.toks)) = some (wJ w.params, #[], bn, 276) :=
 open_cut Gd (by decide) zm
theorem Bw (w : World) : ((wJ w.params).isNs mainGlobals && (#[] : Array GenState).size == 0, (wJ w.params).objs.size, (wJ w.params).nsMap mainGlobals "__annotations__") = (true, 28, some (.ref 6)) := by
 rw [PySem.W.Fast.te8920871248978507458]
 kernel_rfl
theorem Fc (w : World) (os : OsState) : topGo treeTable PW w 28 (some (.ref 6)) 12 (Q0 w os).abs (topStub PW) = some ((Q1 w os).abs, ⟨denote treeTable bo, bo, ⟨0, 0, 0, 0⟩, B0⟩) := by
 rw [PySem.W.Fast.te15667345088766844465, PySem.W.Fast.te14364793385576792824, PySem.W.Fast.te11892475500146522536]
 kernel_rfl
theorem zH (w : World) (os : OsState) : segRun treeTable PW w 28 (some (.ref 6)) 1 1 (Q1 w os).abs (blockOf topB hD bo ⟨0, 0, 0, 0⟩ B0) = some (Flow.next, (Q1 w os).abs, bo, ⟨0, 0, 0, 0⟩) := by
 rw [PySem.W.Fast.te14374325043358763698, PySem.W.Fast.te14364793385576792824]
 unfold blockOf
 rw [PySem.W.Fast.te1066825118222455980]
 kernel_rfl
theorem Gq (w : World) (os : OsState) : topRun treeTable PW w 28 (some (.ref 6)) 2 (Q8 w os).abs ⟨doneF .next, bo, ⟨354, 0, 370, 86⟩, B0⟩ = some (Q8 w os).abs := by
 rw [PySem.W.Fast.te14082659384304107361, PySem.W.Fast.te14364793385576792824]
 kernel_rfl
end
section
theorem EC (w : World) (os : OsState) : topRun treeTable PW w 28 (some (.ref 6)) 3308 (Q0 w os).abs (topStub PW) = some (Q8 w os).abs := by
 have e0 : topB = Bt ++ (uv ++ (Br ++ (uu ++ (Bq ++ (Bp ++ (Bo ++ [])))))) := by kernel_rfl
 have h6 := piece_app (rest := []) (segRun_of (EQ w os)) (N := 2) (Gq w os)
 have h5 := piece_app (segRun_of (ER w os)) h6
 have h4 := piece_app (segRun_of (ES w os)) h5
 have h3 := piece_app (segRun_of (ET w os)) h4
 have h2 := piece_app (segRun_of (EU w os)) h3
 have h1 := piece_app (segRun_of (EV w os)) h2
 have h0 := piece_app (segRun_of (EW w os)) h1
 rw [← e0] at h0
 exact go_top (n := 12) (N := 3296) (Fc w os) (piece_block (n := 1) (N := 3295) (zH w os) h0)
theorem ED (w : World) (os : OsState) : topRun treeTable PW w 28 (some (.ref 6)) 3308 ⟨wJ w.params, #[], bn, 276, os⟩ (topStub PW) = some ⟨kQ w.params, #[], bn, 935, os⟩ := EC w os
theorem Dk (w : World) (os : OsState) : (staticsOk (importedModules PW.main.body) (wJ w.params) (kQ w.params) && namesBound PW (kQ w.params) && gensDone ⟨kQ w.params, #[], bn, 935, os⟩ && laidKept (wJ w.params) (kQ w.params)) = true := by
 delta staticsOk namesBound laidKept
 rw [PySem.W.Fast.te8920871248978507458, PySem.W.Fast.te5923862056798008813]
 kernel_rfl
end
section
set_option pp.maxSteps 20000
noncomputable def fF : List Str := PW.boundNames.filter fun x => !(x == S "law")
theorem Dj (w : World) (os : OsState) : openSeen q1 fF (importedModules PW.main.body) (fun _ => true) true ⟨kQ w.params, #[], bn, 935, os⟩ = openGood q1 fF := by
 rw [PySem.W.Fast.te4187177175401517315, PySem.W.Fast.te5923862056798008813]
 kernel_rfl
theorem Dm : LeftO PW q1 fF (fun _ => true) (fun s => s.heap) (fun w => kQ w.params) 6000 := LeftO.of_pieces BI Bw ED (by decide) fun w => funext fun os => by
 show (_, _, _) = _
 rw [Dk w os, Dj w os]
def YP (w : World) (h : Heap) : Prop := ∀ b o, (kQ w.params).get? b = some o → h.get? b = some o
noncomputable def Gr (s : Stmt) : Pos := match s with | .FunctionDef _ _ _ _ _ _ _ _ _ p => p | _ => default
noncomputable def d0 : DefRec := ⟨S "law", vC (bG 74), av (bG 74), zp (bG 74), Gr (bG 74)⟩
theorem DA : defOf q1 (S "law") = some (d0, []) := by kernel_rfl
theorem Gi : Program.theDef PW (S "law") = some (d0.params, d0.body, d0.scope) := by
 rw [PySem.W.Fast.te10235530238920679567]
 kernel_rfl
theorem El : kwWritten? d0.params.kwonlyargs d0.params.kw_defaults = some [] := by kernel_rfl
abbrev rO : OpenRow := PySem.Challenge.rw_sh0075_01.row
theorem pO : rO.toRowW.prog = PW := rfl
theorem nO : rO.toRowW.name = S "law" := rfl
theorem Hv : LeftO rO.toRowW.prog q1 fF (fun _ => true) (fun s => s.heap) (fun w => kQ w.params) 6000 := by rw [pO]; exact Dm
theorem Dz : defOf q1 rO.toRowW.name = some (d0, []) := by rw [nO]; exact DA
theorem Gh : rO.toRowW.prog.theDef rO.toRowW.name = some (d0.params, d0.body, d0.scope) := by rw [nO, pO]; exact Gi
theorem Dy (walk : WalkO q1 fF (fun _ _ => True) YP rO.toRowW d0 [] fun f vs => PySem.call f vs) (k1 : rO.wellSaid = true) : rO.Holds := by
 refine @holds_open rO q1 fF (fun _ => true) (fun _ _ => True) Heap (fun s => s.heap) (fun w => kQ w.params) YP d0 [] 6000 Hv (fun w s e b o h => e ▸ h) (fun w h h' y k b o e => k _ _ (y _ _ e)) (fun _ _ => trivial) (fun _ _ _ _ _ => trivial) Dz Gh El (fun _ _ => recFacts_nil rfl) ?e k1 ?g ⟨rfl, rfl, rfl, rfl, rfl, by decide +kernel⟩ ?hw walk
 case e => rfl
 case g => decide +kernel
 case hw => w_witness2
end
section
set_option maxRecDepth 4000
section
variable {w : World} {A : Around} {E : Value → Shared → Prop} {s : Shared}
theorem lU {a : Addr} {g n : Nat} {gs : GenState} {P : Nat → Shared → Shared → Prop} {Y : Protocol} {Q : Option Value → Shared → Prop} (hh : A.handled = none) (hl : s.heap.NoLimit) (hroom : A.depth < recursionLimit) (hg : s.heap.IsGen a g) (hgs : s.gens[g]? = some gs)
  (hgo : gs.Goes (model PW w) A.in1 (fun n s₀ r s₁ => r = .ok (.ret .none) ∧ P n s₀ s₁) Y n (.send .none) (s.setGen g .running))
  (hY : ∀ v s₁ gs', gs'.bare = true → Y (n - 1) (s.setGen g .running) v s₁ (fun r' s'' => match n with | 0 => False | m + 1 => gs'.Goes (model PW w) A.in1 (fun n s₀ r s₁ => r = .ok (.ret .none) ∧ P n s₀ s₁) Y m r' s'') → Q (some v) (s₁.setGen g gs'))
  (hP : ∀ s₁, P n (s.setGen g .running) s₁ → ∀ h', (∀ b o, s₁.heap.get? b = some o → h'.get? b = some o) → Q none { s₁.setGen g .finished with heap := h' }) :
  wpAny (model PW w) A (pyNext (.ref a)) Q E s := by
 unfold pyNext
 refine wpAny_bind (wpAny_attempt (wpAny_callSpecial?_slot (name := Str.ofString "__next__") hg.typeIs slot_gen_next (wpAny_call_entry slot_gen_next hg.typeIs entry_gen_next ?_ (args_gen_next _))))
 show wpAny _ A.in1 (Builtin.Generator.genWake (.ref a) (.send .none)) _ _ s
 unfold Builtin.Generator.genWake
 refine wpAny_bind (wpAny_holding (wpAny_genNumber hg (wpAny_bind (wpAny_genState hgs ?_))))
 have stop : ∀ s₁, P n (s.setGen g .running) s₁ → _ := fun s₁ hp h' hk => hP s₁ hp h' hk
 cases gs with
 | running => exact hgo.elim
 | finished => exact hgo.elim
 | _ =>
  refine wpAny_bind (wpAny_roomToWake hl hroom ?_)
  show wpAny _ A.in1 (.resume g (.send .none) [] _) _ _ s
  refine wpAny_resumeQ hgs hgo (fun x s₁ hx => ?_) (fun v s₁ gs' hb hv => wpAny_pure ⟨v, rfl, wpAny_pure (hY v s₁ gs' hb hv)⟩)
  obtain ⟨rfl, hp⟩ := hx
  show wpAny _ _ (newExc (.type "StopIteration") [] >>= _) _ _ _
  refine wpAny_bind ?_
  simp only [newExc, newTuple]
  refine wpAny_bind (wpAny_newObj_type ?_ (by size_fits))
  refine wpAny_bind (m := firstArgMember _ _) (wpAny_of_eq (a := Value.none) (by first | rfl | (simp only [firstArgMember]; rfl)) ?_)
  refine wpAny_newObj_type ?_ (by size_fits)
  refine wpAny_bind (wpAny_raiseNew_none (A := A.in1) hh ?_)
  refine wpAny_bind (wpAny_isInstance (T := "StopIteration") (b := true) ⟨_, Heap.get?_push_size _ rfl, rfl⟩ isSubtype_stop ?_)
  exact wpAny_pure (hP s₁ hp _ fun b o hb => Heap.get?_push_of_some _ (Heap.get?_push_of_some _ hb))
theorem Room.over0 {k : Nat} {body : List Stmt} {env : Env} (R : Room (k + 1) A) : Room k (A.in1.over (.func body env) []) := ⟨R.hd, by
  have := R.dp
  have e : (A.in1.over (.func body env) []).depth = A.depth + 1 := rfl
  rw [e]
  lia, by
  have := R.un
  have e : (A.in1.over (.func body env) []).units = A.units + 4 := rfl
  rw [e]
  lia⟩
theorem Room.over1 {k : Nat} {b2 body els : List Stmt} {env env2 : Env} {t : Expr} {it : Value} {kk p1 kp} (R : Room (k + 1) A) : Room k (A.in1.over (.forLoop t it body els env) [.ret kk none false [] (.func b2 env2) p1 kp]) := ⟨R.hd, by
  have := R.dp
  have e : (A.in1.over (.forLoop t it body els env) [.ret kk none false [] (.func b2 env2) p1 kp]).depth = A.depth + 1 := rfl
  rw [e]
  lia, by
  have := R.un
  have e : (A.in1.over (.forLoop t it body els env) [.ret kk none false [] (.func b2 env2) p1 kp]).units = A.units + 4 := rfl
  rw [e]
  lia⟩
end
section
variable {h₀ : Heap} {env : Env} {m : Str → Option Value} {ρ : aj} {s s' : Shared} {w : World} {A : Around} {f : Fn} {L : Addr}
end
end
section
set_option maxRecDepth 4000
section
variable {w : World} {A : Around} {R : GenEnd} {Y : Protocol} {n : Nat} {s₀ : Shared} {c : Code} {fs : List Frame} {s : Shared} {env : Env}
 {K : Flow → Sem Fin} {H : Value → Sem Fin} {gd : Bool → Bool} {lv : List Value → List Value}
theorem m8 {test : Expr} {body orelse : List Stmt} {pos : Pos} (h : wpAny (model PW w) (A.over c fs) (isTrue test env (eval test env)) (fun b s' => Seg (model PW w) A R Y n s₀ c ((if b = true then execs body env else execs orelse env).wrap K H gd lv) fs s') be s) :
  Seg (model PW w) A R Y n s₀ c ((exec (.If test body orelse pos) env).wrap K H gd lv) fs s := by
 show Seg _ A R Y n s₀ c ((standAt pos >>= fun _ => isTrue test env (eval test env) >>= fun b => if b = true then execs body env else execs orelse env).wrap K H gd lv) fs s
 exact seg_bind_wrap (wpAny_standAt (seg_bind_wrap (wpAny_mono h (fun _ _ h => h) fun _ _ x => x.elim)))
noncomputable def kh (t : Expr) (it : Value) (body : List Stmt) (env : Env) : Flow → Sem Fin
 | .next | .cont => .pure (.again (.forLoop t it body [] env))
 | .brk => .pure (.done .next)
 | .ret v => .pure (.done (.ret v))
noncomputable def wk (env : Env) (e : Value) : Sem Fin := (do noteFrame e env; theTreesLotGoes e : Sem Unit).wrap (fun _ => .raise e) .raise id id
theorem hX {t : Expr} {it : Value} {body : List Stmt} (h : wpAny (model PW w) (A.over (.forLoop t it body [] env) fs) (pyNext it) (fun r s₁ => match r with
   | none => Seg (model PW w) A R Y n s₀ (.block [] env) (.pure (.done .next)) fs s₁
   | some v => wpAny (model PW w) (A.over (.forLoop t it body [] env) fs) (letOwnedTupleGo t it v) (fun _ s₂ => wpAny (model PW w) (A.over (.forLoop t it body [] env) fs) (assign t env v) (fun _ s₃ =>
     Seg (model PW w) A R Y n s₀ (.forLoop t it body [] env) ((execs body env).wrap (kh t it body env) (wk env) id id) fs s₃) be s₂) be s₁) be s) :
  Seg (model PW w) A R Y n s₀ (.forLoop t it body [] env) ((model PW w).den (.forLoop t it body [] env)) fs s := by
 show Seg _ A R Y n s₀ _ ((forTurn t it body [] env).onRaise (fun x => do noteFrame x env; theTreesLotGoes x)) fs s
 unfold forTurn
 rw [Sem.onRaise_eq_wrap]
 refine seg_bind_wrap (wpAny_standAt (seg_bind_wrap (wpAny_onRaise (wpAny_mono h (fun r s₁ h₁ => ?_) fun _ _ x => x.elim))))
 cases r with
 | none => exact seg_again rfl h₁
 | some v =>
  refine seg_bind_wrap (wpAny_mono h₁ (fun _ s₂ h₂ => ?_) fun _ _ x => x.elim)
  refine seg_bind_wrap (wpAny_mono h₂ (fun _ s₃ h₃ => ?_) fun _ _ x => x.elim)
  rw [Sem.bind_eq_wrap', Sem.wrap_wrap]
  rw [Sem.wrap_congr (execs body env) _ _ (K' := kh t it body env) (H' := wk env) (fun f => by cases f <;> rfl) (fun e => by
   show (do noteFrame e env; theTreesLotGoes e : Sem Unit).bind (fun _ => .raise e) = _
   rw [Sem.bind_eq_wrap]
   rfl)]
  exact h₃
theorem uH {t iter : Expr} {body : List Stmt} {pos : Pos} (hs : ∀ x, foldedSetIterable iter env x = pure x) (h : wpAny (model PW w) (A.over c fs) (eval iter env) (fun x s₁ => wpAny (model PW w) (A.over c fs) (pyIter x) (fun it s₂ => ∀ kk p, (∀ f, kk (.ok f) = K f) →
   Seg (model PW w) A R Y n s₀ (.forLoop t it body [] env) ((model PW w).den (.forLoop t it body [] env)) (.ret kk none (gd false) (lv []) c p [] :: fs) s₂) be s₁) be s) :
  Seg (model PW w) A R Y n s₀ c ((exec (.For t iter body [] pos) env).wrap K H gd lv) fs s := by
 show Seg _ A R Y n s₀ c ((standAt pos >>= fun _ => eval iter env >>= fun x => foldedSetIterable iter env x >>= fun x => standAt iter.pos >>= fun _ => holding [x] (pyIter x) >>= fun it => runOwn (.forLoop t it body [] env) env).wrap K H gd lv) fs s
 refine seg_bind_wrap (wpAny_standAt (seg_bind_wrap (wpAny_mono h (fun x s₁ h₁ => ?_) fun _ _ x => x.elim)))
 rw [hs x]
 refine seg_bind_wrap (wpAny_pure (seg_bind_wrap (wpAny_standAt (seg_bind_wrap (wpAny_holding (wpAny_mono h₁ (fun it s₂ h₂ => ?_) fun _ _ x => x.elim))))))
 exact seg_call fun p => h₂ _ p fun f => rfl
end
end
section
noncomputable def qV : Expr := .Constant .none 0 default
noncomputable def vo (s : Stmt) : Expr := by cases s with | If t => exact t | _ => exact qV
noncomputable def Ek (s : Stmt) : List Stmt := by cases s with | If _ a => exact a | _ => exact []
noncomputable def GR (s : Stmt) : List Stmt := by cases s with | If _ _ b => exact b | _ => exact []
noncomputable def oD (s : Stmt) : Pos := by cases s with | If _ _ _ p => exact p | For _ _ _ _ p => exact p | Expr _ p => exact p | _ => exact default
noncomputable def eb (s : Stmt) : Expr := by cases s with | For t => exact t | _ => exact qV
noncomputable def qp (s : Stmt) : Expr := by cases s with | For _ t => exact t | _ => exact qV
noncomputable def Gp (s : Stmt) : List Stmt := by cases s with | For _ _ t => exact t | _ => exact []
noncomputable def yE (s : Stmt) : Expr := by cases s with | Expr e => (cases e with | Yield o => exact o.getD qV | _ => exact qV) | _ => exact qV
noncomputable def yP (s : Stmt) : Pos := by cases s with | Expr e => (cases e with | Yield _ p => exact p | _ => exact default) | _ => exact default
noncomputable def gS (i : Nat) : Stmt := (av (bG 2)).getD i (.Pass default)
noncomputable def gI : Stmt := (Gp (gS 2)).getD 0 (.Pass default)
noncomputable def gJ : Stmt := (GR gI).getD 0 (.Pass default)
noncomputable def qT : Stmt := (Ek gI).getD 0 (.Pass default)
noncomputable def DI : Stmt := (Ek gI).getD 1 (.Pass default)
noncomputable def Em : Stmt := (Ek gJ).getD 0 (.Pass default)
noncomputable def qS : Stmt := (GR gJ).getD 0 (.Pass default)
noncomputable def qR : Stmt := (Ek (gS 3)).getD 0 (.Pass default)
theorem Go : gI = .If (vo gI) [qT, DI] [gJ] (oD gI) := by kernel_rfl
theorem DH : gJ = .If (vo gJ) [Em] [qS] (oD gJ) := by kernel_rfl
theorem DG : gS 3 = .If (vo (gS 3)) [qR] [] (oD (gS 3)) := by kernel_rfl
theorem Gl : qT = .Expr (.Yield (some (yE qT)) (yP qT)) (oD qT) := by kernel_rfl
theorem Gk : qS = .Expr (.Yield (some (yE qS)) (yP qS)) (oD qS) := by kernel_rfl
theorem Gj : qR = .Expr (.Yield (some (yE qR)) (yP qR)) (oD qR) := by kernel_rfl
noncomputable def Ey (e : Expr) : List Expr := match e with | .Tuple l _ _ => l | _ => []
noncomputable def Ex (e : Expr) : Pos := match e with | .Tuple _ _ p => p | _ => default
noncomputable def Ez (e : Expr) : Nat := match e with | .Tuple _ c _ => c | _ => 0
theorem DF : eb (gS 2) = .Tuple (Ey (eb (gS 2))) (Ez (eb (gS 2))) (Ex (eb (gS 2))) := by kernel_rfl
noncomputable def fG : Fn := { sc := (zp (bG 2)).names, mu := [] }
noncomputable def ρH (p : Int) (b : Bool) : aj := [(S "pos", .int p), (S "escape", .bool b)]
noncomputable def ρB (p : Int) (c : Nat) (b : Bool) : aj := [(S "pos", .int p), (S "escape", .bool b), (S "ch", .str [c])]
noncomputable def wy (e : Expr) : Pos := by cases e with | Name _ p => exact p | _ => exact default
noncomputable def GU (e : Expr) : Expr := by cases e with | Call f => exact f | _ => exact qV
noncomputable def GV (e : Expr) : Expr := by cases e with | Call _ a => exact a.getD 0 qV | _ => exact qV
noncomputable def GT (e : Expr) : Pos := by cases e with | Call _ _ _ p => exact p | _ => exact default
noncomputable def wU (s : Stmt) : Expr := by cases s with | Assign _ v => exact v | _ => exact qV
noncomputable def Et (s : Stmt) : Expr := by cases s with | Assign t => exact t.getD 0 qV | _ => exact qV
noncomputable def Eu (s : Stmt) : Pos := match s with | .Assign _ _ p => p | _ => default
noncomputable def Ep (e : Expr) : Nat := match e with | .Constant _ k _ => k | _ => 0
noncomputable def Eo (e : Expr) : Pos := match e with | .Constant _ _ p => p | _ => default
theorem Gn : gS 0 = .Assign [.Name (S "pos") (wy (Et (gS 0)))] (.Constant (.int 0) (Ep (wU (gS 0))) (Eo (wU (gS 0)))) (Eu (gS 0)) := by kernel_rfl
theorem Gm : gS 1 = .Assign [.Name (S "escape") (wy (Et (gS 1)))] (.Constant (.bool false) (Ep (wU (gS 1))) (Eo (wU (gS 1)))) (Eu (gS 1)) := by kernel_rfl
section
variable {o : aO} {p q : Int} {c : Nat} {b : Bool}
theorem xL : ct fG (eb (gS 2)) (.tup [.int p, .str [c]]) (ρH q b) = some (ρB p c b) := by kernel_rfl
theorem E3 : ((aD o 20 fG).2 (vo gI) (ρB p c b) []).run = some (b, []) := by kernel_rfl
theorem E2 : ((aD o 20 fG).2 (vo gJ) (ρB p c b) []).run = some ((false != (([c] : List Nat) == [92])), []) := by kernel_rfl
theorem E1 : ((aD o 20 fG).2 (vo (gS 3)) (ρH p b) []).run = some (b, []) := by kernel_rfl
theorem E0 : ((aD o 20 fG).1 (yE qT) (ρB p c b) []).run = some (.tup [.int p, .str [92, c]], []) := by kernel_rfl
theorem EZ : ((aD o 20 fG).1 (yE qS) (ρB p c b) []).run = some (.tup [.int p, .str [c]], []) := by kernel_rfl
theorem EY : ((aD o 20 fG).1 (yE qR) (ρH p b) []).run = some (.tup [.int p, .str [92]], []) := by kernel_rfl
theorem E5 : (ex o fG 1 20 DI (ρB p c b) []).run = some (.next, cq (ρB p c b) (S "escape") (.bool false), []) := by kernel_rfl
theorem E4 : (ex o fG 1 20 Em (ρB p c b) []).run = some (.next, cq (ρB p c b) (S "escape") (.bool true), []) := by kernel_rfl
end
noncomputable def sca : D → Bool
 | .int _ => true
 | .bool _ => true
 | .str _ => true
 | _ => false
theorem Rd.sca {μ μ' : Mu} {g g' : PH} {v : Value} {d : D} (h : Mine.sca d = true) (hr : Rd μ g v d) : Rd μ' g' v d := by
 cases d <;> first | exact eY h | exact hr
theorem RdAll.sca {μ μ' : Mu} {g g' : PH} : ∀ {vs : List Value} {l : List D}, l.all Mine.sca = true → RdAll μ g vs l → RdAll μ' g' vs l
 | [], [], _, _ => trivial
 | v :: vs, d :: ds, h, hr => by
  simp only [List.all_cons, Bool.and_eq_true] at h
  exact ⟨Rd.sca h.1 hr.1, RdAll.sca h.2 hr.2⟩
 | [], _ :: _, _, hr => by cases hr
 | _ :: _, [], _, hr => by cases hr
noncomputable def wF (k : Option NameKind) : Bool := match k with | some .local => true | _ => false
theorem zb {k : Option NameKind} (h : wF k = true) : k = some .local := by
 rcases k with _ | k
 ·exact eY h
 ·cases k <;> first | rfl | cases h
noncomputable def wp (ρ : aj) : Bool := ρ.all fun p => sca p.2 && wF (fG.sc.lookup p.1)
theorem Eh {p : Int} {b : Bool} : wp (ρH p b) = true := by kernel_rfl
theorem xR {p : Int} {c : Nat} {b : Bool} : wp (ρB p c b) = true := by kernel_rfl
theorem Fj {p : Int} {c : Nat} {b b' : Bool} : wp (cq (ρB p c b) (S "escape") (.bool b')) = true := by kernel_rfl
theorem oZ {ρ : aj} {a b : Str} {da db : D} (h1 : ρ.lookup a = some da) (h2 : ρ.lookup b = some db) : ∀ x d, ([(a, da), (b, db)] : aj).lookup x = some d → ρ.lookup x = some d := fun x d h => by
 rw [List.lookup_cons] at h
 cases e : x == a with
 | true =>
  rw [e] at h
  cases h
  rw [eq_of_beq e]; exact h1
 | false =>
  rw [e] at h
  simp only [List.lookup_cons, List.lookup_nil] at h
  cases e' : x == b with
  | true =>
   rw [e'] at h
   cases h
   rw [eq_of_beq e']; exact h2
  | false => rw [e'] at h; cases h
theorem GE {p : Int} {c : Nat} {b : Bool} : ∀ x d, (ρH p b).lookup x = some d → (ρB p c b).lookup x = some d := oZ (by kernel_rfl) (by kernel_rfl)
theorem Eb {p : Int} {c : Nat} {b b' : Bool} : ∀ x d, (ρH p b').lookup x = some d → (cq (ρB p c b) (S "escape") (.bool b')).lookup x = some d := oZ (by kernel_rfl) (by kernel_rfl)
end
section
set_option maxRecDepth 4000
noncomputable def AL : PH := fun _ => none
noncomputable def nK (ow : List Addr) (s : Shared) : Cx := ⟨fun b => if b ∈ ow then none else s.heap.get? b, AL, [], s.os, s.gens, fun _ => False⟩
noncomputable def Fr (env : Env) (ρ : aj) (h : Heap) : Prop := ∃ m, h.Ns env.locals m ∧ ∀ x d, ρ.lookup x = some d → env.kindOf x = some .local ∧ ∃ v, m x = some v ∧ Rd [] AL v d
section
variable {h₀ : Heap} {env : Env} {m : Str → Option Value} {ρ ρ' : aj} {s s' s₀ s₁ s₂ : Shared} {w : World} {A : Around} {f : Fn} {L : Addr} {C : Cx} {g : PH} {μ : Mu} {σ : aa} {τ : List (Value × D)} {ow wr : List Addr} {h h' : Heap}
theorem wA (hb : ∀ a o, h₀.get? a = some o → s.heap.get? a = some o) (h0 : ∀ a ∈ ow, h₀.get? a = none) (hL : env.locals ∈ ow) (hgL : g env.locals = none) (hg : ∀ a o, g a = some o → a ∈ ow ∧ s.heap.get? a = some o) (hf : Fr env ρ s.heap)
  (hc : env.cells = []) (nocell : ∀ x, env.kindOf x ≠ some .cell) (bare : AllBare s.gens) : St h₀ (nK ow s) env g [] ρ [] [] s where
 base := fun a o h => by
  show (if a ∈ ow then none else s.heap.get? a) = some o
  rw [if_neg (by intro e; rw [h0 a e] at h; cases h)]
  exact hb a o h
 phi := fun a o h => by
  have h : (if a ∈ ow then none else s.heap.get? a) = some o := h
  split at h
  ·exact aW h
  ·exact h
 imm := fun a o h => (hg a o h).2
 grow := fun a o h => .inr (by show (if a ∈ ow then none else s.heap.get? a) = none; rw [if_pos (hg a o h).1])
 ext := fun a o h => aW h
 pre := List.prefix_refl _
 len := rfl
 dist := fun i j so so' a m a' m' h => by simp at h
 sto := fun i so h => by simp at h
 ownΦ := by show (if env.locals ∈ ow then none else _) = none; rw [if_pos hL]
 owng := hgL
 loc := by
  obtain ⟨m, hn, hr⟩ := hf
  exact ⟨m, hn, fun x d hx _ => let ⟨_, v, h1, h2⟩ := hr x d hx; ⟨v, h1, h2.mono (fun _ _ e => by cases e) (List.prefix_refl _)⟩⟩
 cel := fun x d hx hk => by
  obtain ⟨m, hn, hr⟩ := hf
  rw [(hr x d hx).1] at hk; rcases hk with h | h <;> cases h
 celW := fun x _ hk => absurd hk (nocell x)
 celD := fun x y c hx => by rw [hc] at hx; cases hx
 tmp := fun p hp => by cases hp
 bare := bare
 gens := fun i x h => h
 os := rfl
theorem St.sinceO (S : St h₀ (nK ow s) env g μ ρ σ τ s') : Stepd ow none s s' where
 heap := fun b o hb e => S.phi b o (by
  show (if b ∈ ow then none else s.heap.get? b) = some o
  rw [if_neg hb]
  exact e)
 os := S.os
 bare := S.bare
 gens := fun j x _ e => S.gens j x e
theorem Stepd.trans {gi : Option Nat} (X : Stepd wr gi s s₁) (Y : Stepd wr gi s₁ s₂) : Stepd wr gi s s₂ := ⟨fun b o hb e => Y.heap b o hb (X.heap b o hb e), Y.os.trans X.os, Y.bare, fun j x hj e => Y.gens j x hj (X.gens j x hj e)⟩
theorem Stepd.refl {gi : Option Nat} (h : AllBare s.gens) : Stepd wr gi s s := ⟨fun b o hb e => e, rfl, h, fun j x hj e => e⟩
theorem Stepd.mk' {gi : Option Nat} {h' : Heap} {t : Nat} (hb : AllBare s.gens) (h : ∀ b o, b ∉ wr → s.heap.get? b = some o → h'.get? b = some o) : Stepd wr gi s { s with heap := h', toks := t } := ⟨h, rfl, hb, fun j x hj e => e⟩
theorem Stepd.fresh {gi : Option Nat} (X : Stepd wr gi s s₁) {a : Addr} (h : s₁.heap.get? a = none) (hw : a ∉ wr) : s.heap.get? a = none := by
 cases e : s.heap.get? a with
 | none => rfl
 | some o => rw [X.heap a o hw e] at h; cases h
theorem NewTup.back {gi : Option Nat} {v : Value} {d : D} (N : NewTup v d s₁ s₂ wr) (X : Stepd wr gi s s₁) : NewTup v d s s₂ wr := by
 obtain ⟨a, l, vs, c, e1, e2, h1, h2, h3, h4⟩ := N
 exact ⟨a, l, vs, c, e1, e2, X.fresh h1 h3, h2, h3, h4⟩
theorem BQ (h : wp ρ = true) {x : Str} {d : D} (hx : ρ.lookup x = some d) : sca d = true ∧ fG.sc.lookup x = some .local := by
 have h := List.all_eq_true.mp h _ (mem_of_lookup hx)
 simp only [Bool.and_eq_true] at h
 exact ⟨h.1, zb h.2⟩
theorem Fr.of (S : St h₀ C env g μ ρ σ τ s) (V : SEnv fG env) (h : wp ρ = true) : Fr env ρ s.heap := by
 obtain ⟨m, h1, h2⟩ := S.loc
 refine ⟨m, h1, fun x d hx => ?_⟩
 obtain ⟨a, b⟩ := BQ h hx
 have hk := V.loc x b
 obtain ⟨v, h3, h4⟩ := h2 x d hx hk
 exact ⟨hk, v, h3, Rd.sca a h4⟩
theorem Fr.weak (F : Fr env ρ h) (hw : ∀ x d, ρ'.lookup x = some d → ρ.lookup x = some d) : Fr env ρ' h := let ⟨m, a, b⟩ := F; ⟨m, a, fun x d hx => b x d (hw x d hx)⟩
theorem Fr.at (F : Fr env ρ h) (hk : ∀ o, h.get? env.locals = some o → h'.get? env.locals = some o) : Fr env ρ h' := by
 obtain ⟨m, ⟨o, es, ep, h1, h2⟩, b⟩ := F
 exact ⟨m, ⟨o, es, ep, hk _ h1, h2⟩, b⟩
noncomputable def YG (fp wr : List Addr) (ds : List D) : Protocol := fun m s₀ v s kap =>
 ∃ d rest, (d :: rest) <:+ ds ∧ rest.length = m ∧ NewTup v d s₀ s wr ∧ Stepd wr none s₀ s ∧ (∀ b ∈ fp, ∃ o, s.heap.get? b = some o ∧ ∀ v, o.data ≠ .cell v) ∧
  ∀ s'', (∀ b ∈ fp, ∀ o, s.heap.get? b = some o → s''.heap.get? b = some o) → AllBare s''.gens → kap (.send .none) s''
noncomputable def PG (wr : List Addr) : Nat → Shared → Shared → Prop := fun n s₀ s₁ => n = 0 ∧ Stepd wr none s₀ s₁
noncomputable abbrev RG (wr : List Addr) : GenEnd := fun n s₀ r s₁ => r = .ok (.ret .none) ∧ PG wr n s₀ s₁
end
structure GB (w : World) (h₀ : Heap) (mg mb : Str → Option Value) (k : Nat) (o : aO) (env : Env) (A : Around) (x : Str) (e it : Addr) (fp : List Addr) : Prop where
 HO : cF w h₀ mg mb k o
 V : SEnv fG env
 cells : env.cells = []
 nocell : ∀ y, env.kindOf y ≠ some .cell
 co : env.scope.isCoroutine = false
 hL : h₀.get? env.locals = none
 he : h₀.get? e = none
 hi : h₀.get? it = none
 ei : e ≠ it
 eL : e ≠ env.locals
 iL : it ≠ env.locals
 asc : ar x.cps.toList = true
 fe : e ∈ fp
 fi : it ∈ fp
 fL : env.locals ∈ fp
 f0 : ∀ a o, h₀.get? a = some o → a ∈ fp
 fs : ∀ a ∈ fp, a = env.locals ∨ a = e ∨ a = it ∨ ∃ o, h₀.get? a = some o
 c0 : ∀ a o, h₀.get? a = some o → ∀ v, o.data ≠ .cell v
 R : Room (k + 1) A
structure Inv0 (h₀ : Heap) (env : Env) (e it : Addr) (ρ : aj) (s₀ s : Shared) : Prop where
 h0 : ∀ a o, h₀.get? a = some o → s.heap.get? a = some o
 fr : Fr env ρ s.heap
 hi : ∃ o, s.heap.get? it = some o ∧ ∀ v, o.data ≠ .cell v
 he : ∃ o, s.heap.get? e = some o ∧ ∀ v, o.data ≠ .cell v
 st : Stepd [env.locals, e, it] none s₀ s
structure Inv (h₀ : Heap) (env : Env) (e it : Addr) (x : Str) (t : Tok) (p : Nat) (ρ : aj) (s₀ s : Shared) : Prop extends Inv0 h₀ env e it ρ s₀ s where
 en : ∃ old, IsEnum s.heap e it p old
 si : s.heap.IsStrIter it "str_ascii_iterator" x t p
section
variable {w : World} {h₀ : Heap} {mg mb : Str → Option Value} {k : Nat} {o : aO} {env : Env} {A A' : Around} {x : Str} {t : Tok} {e it : Addr} {fp : List Addr} {p : Nat} {ρ ρ' : aj} {s s' s₀ : Shared} {g : PH} {μ : Mu} {σ : aa} {τ : List (Value × D)}
theorem Inv0.mkSt (B : GB w h₀ mg mb k o env A x e it fp) (I : Inv0 h₀ env e it ρ s₀ s) : St h₀ (nK [env.locals] s) env AL [] ρ [] [] s :=
 wA I.h0 (fun a ha => by rw [List.mem_singleton.mp ha]; exact B.hL) (List.mem_singleton.mpr rfl) rfl (fun a o h => by cases h) I.fr B.cells B.nocell I.st.bare
theorem Inv0.next (B : GB w h₀ mg mb k o env A x e it fp) (I : Inv0 h₀ env e it ρ s₀ s) (S : St h₀ (nK [env.locals] s) env g μ ρ' σ τ s') (h : wp ρ' = true) : Inv0 h₀ env e it ρ' s₀ s' where
 h0 := S.baseK
 fr := .of S B.V h
 hi := let ⟨o, a, b⟩ := I.hi; ⟨o, S.sinceO.heap _ _ (by simpa using B.iL) a, b⟩
 he := let ⟨o, a, b⟩ := I.he; ⟨o, S.sinceO.heap _ _ (by simpa using B.eL) a, b⟩
 st := I.st.trans (S.sinceO.sub fun b hb => by rw [List.mem_singleton.mp hb]; exact List.mem_cons_self ..)
theorem Inv.next (B : GB w h₀ mg mb k o env A x e it fp) (I : Inv h₀ env e it x t p ρ s₀ s) (S : St h₀ (nK [env.locals] s) env g μ ρ' σ τ s') (h : wp ρ' = true) : Inv h₀ env e it x t p ρ' s₀ s' :=
 { I.toInv0.next B S h with
  en := let ⟨old, a⟩ := I.en; ⟨old, S.sinceO.heap _ _ (by simpa using B.eL) a⟩
  si := let ⟨o, a, b⟩ := I.si; ⟨o, S.sinceO.heap _ _ (by simpa using B.iL) a, b⟩ }
theorem Inv0.again (B : GB w h₀ mg mb k o env A x e it fp) (I : Inv0 h₀ env e it ρ s₀ s) (hk : ∀ b ∈ fp, ∀ o, s.heap.get? b = some o → s'.heap.get? b = some o) (hb : AllBare s'.gens) : Inv0 h₀ env e it ρ s' s' where
 h0 := fun a o h => hk a (B.f0 a o h) o (I.h0 a o h)
 fr := I.fr.at fun o h => hk _ B.fL o h
 hi := let ⟨o, a, b⟩ := I.hi; ⟨o, hk _ B.fi o a, b⟩
 he := let ⟨o, a, b⟩ := I.he; ⟨o, hk _ B.fe o a, b⟩
 st := .refl hb
theorem Inv.again (B : GB w h₀ mg mb k o env A x e it fp) (I : Inv h₀ env e it x t p ρ s₀ s) (hk : ∀ b ∈ fp, ∀ o, s.heap.get? b = some o → s'.heap.get? b = some o) (hb : AllBare s'.gens) : Inv h₀ env e it x t p ρ s' s' :=
 { I.toInv0.again B hk hb with
  en := let ⟨old, a⟩ := I.en; ⟨old, hk _ B.fe _ a⟩
  si := let ⟨o, a, b⟩ := I.si; ⟨o, hk _ B.fi _ a, b⟩ }
theorem Inv0.shape (B : GB w h₀ mg mb k o env A x e it fp) (I : Inv0 h₀ env e it ρ s₀ s) : ∀ b ∈ fp, ∃ o, s.heap.get? b = some o ∧ ∀ v, o.data ≠ .cell v := fun b hb => by
 rcases B.fs b hb with rfl | rfl | rfl | ⟨o, h⟩
 ·obtain ⟨m, ⟨o, es, ep, h1, h2, _⟩, _⟩ := I.fr
  exact ⟨o, h1, fun v e => by rw [h2] at e; cases e⟩
 ·exact I.he
 ·exact I.hi
 ·exact ⟨o, I.h0 _ _ h, B.c0 _ _ h⟩
theorem fI (B : GB w h₀ mg mb k o env A x e it fp) (I : Inv0 h₀ env e it ρ s₀ s) (RA : Room k A') {ex : Expr} {l : List D} {ds rest : List D} {m : Nat} (hev : ((aD o 20 fG).1 ex ρ []).run = some (.tup l, [])) (hl : l.all sca = true) (hok : wp ρ = true)
  (hds : (D.tup l :: rest) <:+ ds) (hn : rest.length = m) {kont : Shared → Prop} {E : Value → Shared → Prop}
  (K : ∀ (g : PH) (μ : Mu) (τ : List (Value × D)) s₁ s'', St h₀ (nK [env.locals] s) env g μ ρ [] τ s₁ → (∀ b ∈ fp, ∀ o, s₁.heap.get? b = some o → s''.heap.get? b = some o) → AllBare s''.gens → kont s'') : 
  wpAny (model PW w) A' (eval ex env) (fun v s₁ => ∀ kap : Resume → Shared → Prop, (∀ s'', kont s'' → kap (.send .none) s'') → YG fp [env.locals, e, it] ds m s₀ v s₁ kap) E s := by
 refine aU (((cn B.HO 20 fG).1 _ _ _ _ _ hev).2 _ env _ _ [] A' s B.V RA (I.mkSt B)) fun v s₁ g₁ μ₁ S₁ kap hkap => ?_
 have I₁ := I.next B S₁ hok
 refine ⟨.tup l, rest, hds, hn, ?_, I₁.st, I₁.shape B, fun s'' hk hb => hkap _ (K _ _ _ s₁ s'' S₁ hk hb)⟩
 ·have hv := S₁.tmp _ (List.mem_cons_self ..)
  obtain ⟨a, vs, c, rfl, h1, h2⟩ := hv
  have hne : a ≠ env.locals := by rintro rfl; rw [S₁.owng] at h1; cases h1
  have hn : s.heap.get? a = none := by
   rcases S₁.grow _ _ h1 with h | h
   ·exact aW h
   ·have h : (if a ∈ [env.locals] then none else s.heap.get? a) = none := h
    rwa [if_neg (by simpa using hne)] at h
  refine NewTup.back (s₁ := s) ⟨a, l, vs, c, rfl, rfl, hn, S₁.imm _ _ h1, fun hb => ?_, fun μ g => RdAll.sca hl h2⟩ I.st
  have : ∀ b, (∃ o, s.heap.get? b = some o ∧ ∀ v, o.data ≠ .cell v) → a ≠ b := by
   rintro b ⟨o, h, _⟩ rfl
   rw [hn] at h; cases h
  rcases List.mem_cons.mp hb with h | hb
  ·exact hne h
  ·rcases List.mem_cons.mp hb with h | hb
   ·exact this _ I.he h
   ·exact this _ I.hi (List.mem_singleton.mp hb)
end
end
section
set_option maxRecDepth 4000
noncomputable def bm : Nat → Bool → List Nat → List D
 | p, true, [] => [.tup [.int (p - 1 : Nat), .str [92]]]
 | _, false, [] => []
 | p, true, c :: r => .tup [.int p, .str [92, c]] :: bm (p + 1) false r
 | p, false, c :: r => if c == 92 then bm (p + 1) true r else .tup [.int p, .str [c]] :: bm (p + 1) false r
noncomputable def eh : List Stmt := [gS 0, gS 1, gS 2, gS 3]
noncomputable def KF : Flow → Sem Fin := fun f => .pure (.done (.ret (match f with | .ret v => v | _ => .none)))
noncomputable def HF (env : Env) : Value → Sem Fin := fun e => (leaving env e).wrap (fun _ => .raise e) .raise id id
section
variable {w : World} {A : Around} {E : Value → Shared → Prop} {s : Shared}
theorem lV {it : Addr} {x : Str} {t : Tok} {i : Nat} {Q : Value → Shared → Prop} (hh : A.handled = none) (hit : s.heap.IsStrIter it "str_ascii_iterator" x t i) (hx : x.cps[i]? = none)
  (hE : ∀ h' e, Heap.ExtBut it s.heap h' → (∃ o, h'.get? it = some o ∧ ∀ v, o.data ≠ .cell v) → (∃ o, h'.get? e = some o ∧ o.cls = .type "StopIteration") → E (.ref e) { s with heap := h' }) :
  wpAny (model PW w) A (Builtin.SmallTypes.nextOf (.ref it)) Q E s := by
 obtain ⟨o, ho, hc, hd⟩ := id hit
 unfold Builtin.SmallTypes.nextOf
 refine wpAny_bind (wpAny_callSpecial?_slot (name := Str.ofString "__next__") hit.typeIs F.slot_str_ascii_iterator_next
  (wpAny_call_entry F.slot_str_ascii_iterator_next hit.typeIs F.entry_str_ascii_iterator_next ?_ (F.args_str_ascii_iterator_next_1 _)))
 show wpAny _ _ (field (.ref it) 0 >>= _) _ _ s
 refine wpAny_bind (wpAny_field ho hd (x := .str x t) rfl ?_)
 show wpAny _ _ (field (.ref it) 1 >>= _) _ _ s
 refine wpAny_bind (wpAny_field ho hd (x := .int i 0) rfl ?_)
 simp only [Int.toNat_natCast, hx]
 refine wpAny_bind (wpAny_rule (wpAny_bind (wpAny_setField ho hd (by simp) (wpAny_bind (wpAny_letGo ?_)))))
 show wpAny _ _ (newExc (.type "StopIteration") [] >>= _) _ _ _
 refine wpAny_bind ?_
 simp only [newExc, newTuple]
 refine wpAny_bind (wpAny_newObj_type ?_ (by size_fits))
 refine wpAny_bind (m := firstArgMember _ _) (wpAny_of_eq (a := Value.none) (by first | rfl | (simp only [firstArgMember]; rfl)) ?_)
 refine wpAny_newObj_type ?_ (by size_fits)
 refine wpAny_raiseNew_none (A := A.in1) hh ?_
 refine hE _ _ (((Heap.SameBut.update ..).extBut.push _).push _) ⟨_, Heap.get?_push_of_some _ (Heap.get?_push_of_some _ (Heap.get?_update_self _ ho (Obj.isFreed_of_fields (Obj.data_mapFields hd _)))), fun v e => ?_⟩ ⟨_, Heap.get?_push_size _ rfl, rfl⟩
 rw [Obj.data_mapFields hd] at e
 cases e
theorem qc {e it : Addr} {x : Str} {t : Tok} {j : Nat} {i : Int} {old : Value} {Q : Option Value → Shared → Prop} (hh : A.handled = none) (he : IsEnum s.heap e it i old) (hit : s.heap.IsStrIter it "str_ascii_iterator" x t j) (hx : x.cps[j]? = none)
  (hQ : ∀ h', Heap.ExtBut it s.heap h' → (∃ o, h'.get? it = some o ∧ ∀ v, o.data ≠ .cell v) → Q none { s with heap := h' }) : wpAny (model PW w) A (pyNext (.ref e)) Q E s := by
 have hT : s.TypeIs (.ref e) "enumerate" := ⟨_, he, rfl⟩
 unfold pyNext
 refine wpAny_bind (wpAny_attempt (wpAny_callSpecial?_slot (name := Str.ofString "__next__") hT F.slot_enumerate_next
  (wpAny_call_entry F.slot_enumerate_next hT F.entry_enumerate_next ?_ (F.args_enumerate_next_1 _))))
 show wpAny _ _ (field (.ref e) 2 >>= _) _ _ _
 refine wpAny_bind (wpAny_field he rfl (x := .ref it) rfl ?_)
 refine wpAny_bind (lV hh hit hx fun h' z hx1 hx2 hx' => ?_)
 obtain ⟨o, ho, hc⟩ := hx'
 refine wpAny_bind (wpAny_isInstance (T := "StopIteration") (b := true) ⟨o, ho, hc⟩ isSubtype_stop ?_)
 exact wpAny_pure (hQ _ hx1 hx2)
theorem vg {e it a : Addr} {i : Int} {item : Value} {Q : Unit → Shared → Prop} (he : IsEnumOut s.heap e it i item a) (hQ : ∀ h', IsEnum h' e it i item → Heap.SameBut e s.heap h' → Q () { s with heap := h' }) :
  wpAny (model PW w) A (letOwnedTupleGo (eb (gS 2)) (.ref e) (.ref a)) Q E s := by
 rw [DF]
 exact wpAny_letOwnedTupleGo_enum he hQ
end
section
variable {w : World} {h₀ : Heap} {mg mb : Str → Option Value} {k : Nat} {o : aO} {env : Env} {A A' : Around} {x : Str} {t : Tok} {e it : Addr} {fp : List Addr} {p n : Nat} {b b' : Bool} {c : Nat} {ρ ρ' : aj} {s s' s₀ : Shared} {g : PH} {μ : Mu} {σ : aa} {τ : List (Value × D)} {ds : List D}
 {cd : Code} {fs : List Frame} {K : Flow → Sem Fin} {H : Value → Sem Fin} {gd : Bool → Bool} {lv : List Value → List Value}
theorem no (V : SEnv fG env) : interactive env = false := by unfold interactive; rw [V.kind]; rfl
theorem vM : exec (gS 3) env = exec (.If (vo (gS 3)) [qR] [] (oD (gS 3))) env := congrArg (exec · env) DG
theorem vL : exec gI env = exec (.If (vo gI) [qT, DI] [gJ] (oD gI)) env := congrArg (exec · env) Go
theorem vK : exec gJ env = exec (.If (vo gJ) [Em] [qS] (oD gJ)) env := congrArg (exec · env) DH
theorem vG : exec qT env = exec (.Expr (.Yield (some (yE qT)) (yP qT)) (oD qT)) env := congrArg (exec · env) Gl
theorem vF : exec qS env = exec (.Expr (.Yield (some (yE qS)) (yP qS)) (oD qS)) env := congrArg (exec · env) Gk
theorem vE : exec qR env = exec (.Expr (.Yield (some (yE qR)) (yP qR)) (oD qR)) env := congrArg (exec · env) Gj
theorem rJ (B : GB w h₀ mg mb k o env A x e it fp) (I : Inv0 h₀ env e it (ρH ((p - 1 : Nat) : Int) b) s₀ s) (hds : bm p b [] <:+ ds) :
  Seg (model PW w) A.in1 (RG [env.locals, e, it]) (YG fp [env.locals, e, it] ds) (bm p b []).length s₀ (.func eh env) ((execs [gS 3] env).wrap KF (HF env) id id) [] s := by
 refine seg_execs_cons ?_
 rw [vM]
 refine m8 (wpAny_mono ((cn B.HO 20 fG).2 _ _ _ _ _ E1 _ env _ _ [] _ s B.V B.R.over0 (I.mkSt B)) (fun b₁ s₁ h₁ => ?_) fun _ _ x => x.elim)
 obtain ⟨rfl, g₁, μ₁, S₁⟩ := h₁
 have I₁ := I.next B S₁ Eh
 cases b₁ with
 | false => exact seg_end (.ok (.ret .none)) ⟨rfl, rfl, I₁.st⟩
 | true =>
  show Seg _ _ _ _ (0 + 1) _ _ ((execs [qR] env).wrap _ _ _ _) _ _
  refine seg_execs_cons ?_
  rw [vE]
  refine seg_Expr_Yield rfl rfl rfl (wpAny_mono (fI B I₁ B.R.over0 EY rfl Eh hds rfl (K := fun g μ τ s₂ s'' S₂ hk hb => ?_)) (fun v s₂ h₂ kap hkap => h₂ kap fun s'' hs => hkap .none s'' hs) fun _ _ x => x) B.co (no B.V)
  exact seg_end (.ok (.ret .none)) ⟨rfl, rfl, ((I₁.next B S₂ Eh).again B hk hb).st⟩
theorem oK (B : GB w h₀ mg mb k o env A x e it fp) {R : GenEnd} {Y : Protocol} {st : Stmt} (hR : Room k (A.in1.over cd fs)) (I : Inv h₀ env e it x t (p + 1) (ρB p c b) s₀ s) (hs : (ex o fG 1 20 st (ρB p c b) []).run = some (.next, cq (ρB p c b) (S "escape") (.bool b'), []))
  (hK : ∀ s', Inv h₀ env e it x t (p + 1) (ρH p b') s₀ s' → Seg (model PW w) A.in1 R Y n s₀ cd (K .next) fs s') : Seg (model PW w) A.in1 R Y n s₀ cd ((exec st env).wrap K H gd lv) fs s := by
 refine seg_wrap (wpAny_mono (mv B.HO 1 20 _ _ _ _ _ _ hs _ env _ _ [] _ s B.V rfl hR (I.mkSt B)) (fun f s₁ h₁ => ?_) fun _ _ x => x.elim)
 obtain ⟨rfl, g₁, μ₁, S₁⟩ := h₁
 have I₁ := I.next B S₁ Fj
 exact hK s₁ { I₁ with fr := I₁.fr.weak Eb }
end
end
section
set_option maxRecDepth 4000
section
variable {w : World} {h₀ : Heap} {mg mb : Str → Option Value} {k : Nat} {o : aO} {env : Env} {A A' : Around} {x : Str} {t : Tok} {e it : Addr} {fp : List Addr} {p n : Nat} {b b' : Bool} {c : Nat} {ρ ρ' : aj} {s s' s₀ : Shared} {g : PH} {μ : Mu} {σ : aa} {τ : List (Value × D)} {ds : List D}
 {cd : Code} {fs : List Frame} {K : Flow → Sem Fin} {H : Value → Sem Fin} {gd : Bool → Bool} {lv : List Value → List Value}
theorem Inv0.there (I : Inv0 h₀ env e it ρ s₀ s) : ∃ o, s.heap.get? env.locals = some o := by
 obtain ⟨m, ⟨o, es, ep, h1, h2⟩, _⟩ := I.fr
 exact ⟨o, h1⟩
theorem uo (B : GB w h₀ mg mb k o env A x e it fp) (RA : Room k A') (I : Inv h₀ env e it x t p (ρH ((p - 1 : Nat) : Int) b) s₀ s) (hc : x.cps.toList[p]? = some c) {Q : Option Value → Shared → Prop} {E : Value → Shared → Prop}
    (hQ : ∀ T s₁, (∀ (Q : Unit → Shared → Prop) (E : Value → Shared → Prop), (∀ s₂, (∀ (Q : Unit → Shared → Prop) (E : Value → Shared → Prop), (∀ s₃, Inv h₀ env e it x t (p + 1) (ρB p c b) s₀ s₃ → Q () s₃) → wpAny (model PW w) A' (assign (eb (gS 2)) env (.ref T)) Q E s₂) → Q () s₂) →
      wpAny (model PW w) A' (letOwnedTupleGo (eb (gS 2)) (.ref e) (.ref T)) Q E s₁) → Q (some (.ref T)) s₁) : wpAny (model PW w) A' (pyNext (.ref e)) Q E s := by
  obtain ⟨old, he⟩ := I.en
  have hlt : p < x.cps.size := by
    have := (List.getElem?_eq_some_iff.mp hc).1
    simpa using this
  refine wpAny_pyNext_enum_itemD (Draws.strAscii (A := A'.in1) RA.hd it x t) he I.si hlt B.ei (by simpa using B.ei) fun v h' tk hv ho hs' hT hsz hk => hQ _ _ fun Q E hQ => ?_
  obtain ⟨c', u, hc', rfl⟩ := hv
  have hcc : c' = c := by
    rw [← Array.getElem?_toList, hc] at hc'
    clear ho hT; cases hc'; rfl
  subst hcc
  refine vg (s := { s with heap := h', toks := tk + 1 }) ho fun h'' he'' hsb => hQ _ fun Q E hQ => ?_
  have helt := Heap.lt_size he
  have hilt : it < s.heap.objs.size := by obtain ⟨o, h1, _⟩ := I.hi; exact Heap.lt_size h1
  have hLlt : env.locals < s.heap.objs.size := by obtain ⟨o, h1⟩ := I.there; exact Heap.lt_size h1
  have hTe : s.heap.objs.size ≠ e := Nat.ne_of_gt helt
  have hTi : s.heap.objs.size ≠ it := Nat.ne_of_gt hilt
  have hTL : s.heap.objs.size ≠ env.locals := Nat.ne_of_gt hLlt
  have k2 : ∀ b o, b ≠ e → b ≠ it → s.heap.get? b = some o → h''.get? b = some o := fun b o h1 h2 h3 => hsb.extBut b o h1 (hk b o h1 h2 h3)
  have hT2 : h''.get? s.heap.objs.size = some (jN #[.int p tk, .str ⟨#[c']⟩ u] 0) := hsb.extBut _ _ hTe hT
  have h0T : h₀.get? s.heap.objs.size = none := by
    cases e : h₀.get? s.heap.objs.size with
    | none => rfl
    | some o => have := I.h0 _ _ e; rw [bg] at this; cases this
  have hasc : ar [c'] = true := by
    have := List.all_eq_true.mp B.asc c' (List.mem_of_getElem? hc)
    simpa [ar] using this
  have S₂ : St h₀ (nK [env.locals, s.heap.objs.size] { s with heap := h'', toks := tk + 1 }) env (fq AL s.heap.objs.size (jN #[.int p tk, .str ⟨#[c']⟩ u] 0)) [] (ρH ((p - 1 : Nat) : Int) b) [] [] { s with heap := h'', toks := tk + 1 } := by
    refine wA (fun a ob ha => k2 a ob ?_ ?_ (I.h0 a ob ha)) (fun a ha => ?_) (List.mem_cons_self ..) ?_ (fun a ob ha => ?_) (I.fr.at fun o h => k2 _ _ B.eL.symm B.iL.symm h) B.cells B.nocell I.st.bare
    · clear I he hk ho he'' hsb hQ helt hTe k2; rintro rfl; rw [B.he] at ha; cases ha
    · clear I he hs' hk ho he'' hQ hilt hTi k2; rintro rfl; rw [B.hi] at ha; cases ha
    · rcases List.mem_cons.mp ha with rfl | ha
      · exact B.hL
      · rw [List.mem_singleton.mp ha]; exact h0T
    · rw [a0 _ _ hTL.symm]; rfl
    · by_cases ea : a = s.heap.objs.size
      · subst ea
        rw [aP] at ha
        refine ox_ ha ?_
        exact ⟨List.mem_cons_of_mem _ (List.mem_singleton.mpr rfl), hT2⟩
      · rw [a0 _ _ ea] at ha; cases ha
  refine wpAny_mono (gF RA B.V (eb (gS 2)) (.tup [.int p, .str [c']]) xL ?_ S₂) (fun _ s₃ S₃ => hQ s₃ ?_) fun _ _ x => x.elim
  · skip
    exact ⟨_, _, _, rfl, aP .., by exact ⟨⟨tk, rfl⟩, ⟨hasc, u, rfl⟩, trivial⟩⟩
  · have k3 : ∀ b o, b ≠ env.locals → b ≠ s.heap.objs.size → h''.get? b = some o → s₃.heap.get? b = some o := fun b o h1 h2 h3 => S₃.sinceO.heap b o (by simp [h1, h2]) h3
    obtain ⟨oi, hi1, hi2, hi3⟩ := hs'
    have hi4 : s₃.heap.get? it = some oi := k3 it oi B.iL hTi.symm (hsb.extBut _ _ B.ei.symm hi1)
    have he3 : IsEnum s₃.heap e it ((p : Int) + 1) (.str ⟨#[c']⟩ u) := k3 e _ B.eL hTe.symm he''
    exact { h0 := S₃.baseK
            fr := .of S₃ B.V xR
            hi := ⟨oi, hi4, fun v e => by rw [hi3] at e; cases e⟩
            he := ⟨_, he3, fun v e => by cases e⟩
            st := ⟨fun b o hb h => by
                simp only [List.mem_cons, List.not_mem_nil, or_false, not_or] at hb
                have h1 := I.st.heap b o (by simp [hb]) h
                exact k3 b o hb.1 (by rintro rfl; rw [bg] at h1; cases h1) (k2 b o hb.2.1 hb.2.2 h1), S₃.sinceO.os.trans I.st.os, S₃.bare, fun j y hj h => S₃.sinceO.gens j y hj (I.st.gens j y hj h)⟩
            en := ⟨_, by simpa using he3⟩
            si := ⟨oi, hi4, hi2, hi3⟩ }
end
end
section
set_option maxRecDepth 4000
section
variable {w : World} {h₀ : Heap} {mg mb : Str → Option Value} {k : Nat} {o : aO} {env : Env} {A A' : Around} {x : Str} {t : Tok} {e it : Addr} {fp : List Addr} {p n : Nat} {b b' : Bool} {c : Nat} {ρ ρ' : aj} {s s' s₀ : Shared} {g : PH} {μ : Mu} {σ : aa} {τ : List (Value × D)} {ds : List D}
 {cd : Code} {fs : List Frame} {K : Flow → Sem Fin} {H : Value → Sem Fin} {gd : Bool → Bool} {lv : List Value → List Value}
theorem Bn {α : Type} {a : α} {l m : List α} (h : (a :: l) <:+ m) : l <:+ m := (List.suffix_cons a l).trans h
theorem lI (B : GB w h₀ mg mb k o env A x e it fp) {kk : Result → Sem Fin} {p1 : Pos} (hkk : ∀ f, kk (.ok f) = (match f with | .next => (execs [gS 3] env).wrap KF (HF env) id id | f => KF f)) :
  ∀ (l : List Nat) (p : Nat) (b : Bool) (s₀ s : Shared), x.cps.toList.drop p = l → bm p b l <:+ ds → Inv h₀ env e it x t p (ρH ((p - 1 : Nat) : Int) b) s₀ s →
   Seg (model PW w) A.in1 (RG [env.locals, e, it]) (YG fp [env.locals, e, it] ds) (bm p b l).length s₀ (.forLoop (eb (gS 2)) (.ref e) [gI] [] env) ((model PW w).den (.forLoop (eb (gS 2)) (.ref e) [gI] [] env))
    [.ret kk none false [] (.func eh env) p1 []] s
 | [], p, b, s₀, s, hd, hds, I => by
  have RA : Room k (A.in1.over (.forLoop (eb (gS 2)) (.ref e) [gI] [] env) [.ret kk none false [] (.func eh env) p1 []]) := B.R.over1
  obtain ⟨old, he⟩ := I.en
  have hx : x.cps[p]? = none := by
   have := List.drop_eq_nil_iff.mp hd
   simpa using this
  refine hX (qc RA.hd he I.si hx fun h' h1 h2 => ?_)
  show Seg _ _ _ _ _ _ _ (leafOf (.ok .next)) _ _
  refine seg_leaf (.ok .next) ?_
  rw [hkk]
  refine rJ B { h0 := fun a ob ha => h1 _ _ ?_ (I.h0 a ob ha), fr := I.fr.at fun o h => h1 _ _ B.iL.symm h, hi := h2, he := ⟨_, h1 _ _ B.ei he, fun v e => by cases e⟩, st := I.st.trans (.mk' I.st.bare fun b o hb h => h1 b o ?_ h) } hds
  ·clear I he h1 h2; rintro rfl; rw [B.hi] at ha; cases ha
  ·clear B I he h1 h2; rintro rfl; simp at hb
 | c :: r, p, b, s₀, s, hd, hds, I => by
  have RA : Room k (A.in1.over (.forLoop (eb (gS 2)) (.ref e) [gI] [] env) [.ret kk none false [] (.func eh env) p1 []]) := B.R.over1
  have hc : x.cps.toList[p]? = some c := by
   have := congrArg (·[0]?) hd
   simpa using this
  have hr : x.cps.toList.drop (p + 1) = r := by
   have := congrArg List.tail hd
   rwa [List.tail_drop] at this
  have ih := lI B (p1 := p1) hkk r
  have fin : ∀ b' s₀ s, bm (p + 1) b' r <:+ ds → Inv h₀ env e it x t (p + 1) (ρH p b') s₀ s → Seg (model PW w) A.in1 (RG [env.locals, e, it]) (YG fp [env.locals, e, it] ds) (bm (p + 1) b' r).length s₀ (.forLoop (eb (gS 2)) (.ref e) [gI] [] env) (.pure (.again (.forLoop (eb (gS 2)) (.ref e) [gI] [] env)))
    [.ret kk none false [] (.func eh env) p1 []] s := fun b' s₀ s h1 h2 => seg_again rfl (ih (p + 1) b' s₀ s hr h1 (by rw [Nat.add_sub_cancel]; exact h2))
  refine hX (uo B RA I hc fun T s₁ h₁ => h₁ _ _ fun s₂ h₂ => h₂ _ _ fun s₃ I₃ => ?_)
  refine seg_execs_cons ?_
  rw [vL]
  refine m8 (wpAny_mono ((cn B.HO 20 fG).2 _ _ _ _ _ E3 _ env _ _ [] _ s₃ B.V RA (I₃.mkSt B)) (fun b₁ s₄ h₄ => ?_) fun _ _ x => x.elim)
  clear I h₁ h₂; obtain ⟨rfl, g₄, μ₄, S₄⟩ := h₄
  have I₄ := I₃.next B S₄ xR
  cases b₁ with
  | true =>
   show Seg _ _ _ _ ((bm (p + 1) false r).length + 1) _ _ ((execs [qT, DI] env).wrap _ _ _ _) _ _
   refine seg_execs_cons ?_
   rw [vG]
   refine seg_Expr_Yield rfl rfl rfl (wpAny_mono (fI B I₄.toInv0 RA E0 rfl xR hds rfl (K := fun g μ τ s₅ s'' S₅ hk hb => ?_)) (fun v s₂ h₂ kap hkap => h₂ kap fun s'' hs => hkap .none s'' hs) fun _ _ x => x) B.co (no B.V)
   show Seg _ _ _ _ _ _ _ ((execs [DI] env).wrap _ _ _ _) _ _
   refine seg_execs_cons (oK B RA ((I₄.next B S₅ xR).again B hk hb) E5 fun s₆ I₆ => ?_)
   exact fin false s'' s₆ (Bn hds) I₆
  | false =>
   show Seg _ _ _ _ _ _ _ ((execs [gJ] env).wrap _ _ _ _) _ _
   refine seg_execs_cons ?_
   rw [vK]
   refine m8 (wpAny_mono ((cn B.HO 20 fG).2 _ _ _ _ _ E2 _ env _ _ [] _ s₄ B.V RA (I₄.mkSt B)) (fun b₂ s₅ h₅ => ?_) fun _ _ x => x.elim)
   obtain ⟨hb₂, g₅, μ₅, S₅⟩ := h₅
   have I₅ := I₄.next B S₅ xR
   have hb₂ : b₂ = (c == 92) := by
    rw [hb₂]
    show (false != (c == 92 && true)) = _
    cases c == 92 <;> rfl
   refine q2_ hb₂ ?_
   cases hcc : c == 92 with
   | true =>
    have e1 : bm p false (c :: r) = bm (p + 1) true r := by show (if (c == 92) = true then _ else _) = _; rw [if_pos hcc]
    rw [e1] at hds ⊢
    show Seg _ _ _ _ _ _ _ ((execs [Em] env).wrap _ _ _ _) _ _
    exact seg_execs_cons (oK B RA I₅ E4 fun s₆ I₆ => fin true s₀ s₆ hds I₆)
   | false =>
    have e1 : bm p false (c :: r) = .tup [.int p, .str [c]] :: bm (p + 1) false r := by show (if (c == 92) = true then _ else _) = _; rw [if_neg (by rw [hcc]; exact Bool.false_ne_true)]
    rw [e1] at hds ⊢
    show Seg _ _ _ _ ((bm (p + 1) false r).length + 1) _ _ ((execs [qS] env).wrap _ _ _ _) _ _
    refine seg_execs_cons ?_
    rw [vF]
    refine seg_Expr_Yield rfl rfl rfl (wpAny_mono (fI B I₅.toInv0 RA EZ rfl xR hds rfl (K := fun g μ τ s₆ s'' S₆ hk hb => ?_)) (fun v s₂ h₂ kap hkap => h₂ kap fun s'' hs => hkap .none s'' hs) fun _ _ x => x) B.co (no B.V)
    have I₇ := (I₅.next B S₆ xR).again B hk hb
    exact fin false s'' s'' (Bn hds) { I₇ with fr := I₇.fr.weak GE }
end
end
section
theorem zj : gS 2 = .For (eb (gS 2)) (.Call (.Name (S "enumerate") (wy (GU (qp (gS 2))))) [.Name (S "addr") (wy (GV (qp (gS 2))))] [] (GT (qp (gS 2)))) [gI] [] (oD (gS 2)) := by kernel_rfl
theorem yX : fG.sc.lookup (S "pos") = some .local := by kernel_rfl
theorem yY : fG.sc.lookup (S "escape") = some .local := by kernel_rfl
theorem sx : fG.sc.lookup (S "addr") = some .local := by kernel_rfl
theorem yZ : fG.isG (S "enumerate") = true := by kernel_rfl
theorem yK : (S "addr" == ("__debug__" : Str)) = false := by kernel_rfl
theorem Dg : S "addr" ≠ S "escape" := by decide
theorem Df : S "addr" ≠ S "pos" := by decide
theorem De : S "pos" ≠ S "escape" := by decide
section
variable {w : World} {h₀ : Heap} {mg mb : Str → Option Value} {k : Nat} {o : aO} {env : Env} {A A' : Around} {x : Str} {t : Tok} {e it : Addr} {fp : List Addr} {p n : Nat} {b b' : Bool} {c : Nat} {ρ ρ' : aj} {s s' s₀ : Shared} {g : PH} {μ : Mu} {σ : aa} {τ : List (Value × D)} {ds : List D}
theorem vf {f : Fn} {y : Str} {q : Pos} (B : Bs w h₀ mg mb) (hk : ∀ a o, h₀.get? a = some o → s.heap.get? a = some o) (V : SEnv f env) {v : Value} (hx : f.isG y = true) (hl : LoadB mg mb y v) {Q : Value → Shared → Prop} {E : Value → Shared → Prop} (hQ : Q v s) :
  wpAny (model PW w) A (eval (.Name y q) env) Q E s := by
 obtain ⟨kd, hkd, hx⟩ := cN hx
 cases kd <;> first | exact eY hx | skip
 refine Calls.Name_function_global V.kind (V.gl _ hkd) ?_ hl.nd
 have hg := B.g.keeps hk
 have hb := B.b.keeps hk
 rcases hl.at_ with h | ⟨h1, h2⟩
 ·exact Calls.loadGlobal_global (by rw [V.glob]; exact hg) h hQ
 ·exact Calls.loadGlobal_builtin (by rw [V.glob]; exact hg) h1 (by rw [V.blt]; exact hb) h2 hQ
theorem vJ : exec (gS 0) env = exec (.Assign [.Name (S "pos") (wy (Et (gS 0)))] (.Constant (.int 0) (Ep (wU (gS 0))) (Eo (wU (gS 0)))) (Eu (gS 0))) env := congrArg (exec · env) Gn
theorem vI : exec (gS 1) env = exec (.Assign [.Name (S "escape") (wy (Et (gS 1)))] (.Constant (.bool false) (Ep (wU (gS 1))) (Eo (wU (gS 1)))) (Eu (gS 1))) env := congrArg (exec · env) Gm
theorem vH : exec (gS 2) env = exec (.For (eb (gS 2)) (.Call (.Name (S "enumerate") (wy (GU (qp (gS 2))))) [.Name (S "addr") (wy (GV (qp (gS 2))))] [] (GT (qp (gS 2)))) [gI] [] (oD (gS 2))) env := congrArg (exec · env) zj
theorem p5 (B : GB w h₀ mg mb k o env A x e it fp) (hen : LoadB mg mb (S "enumerate") (.type "enumerate")) (he : e = s.heap.objs.size + 1) (hi : it = s.heap.objs.size) (h0 : ∀ a o, h₀.get? a = some o → s.heap.get? a = some o)
  {m : Str → Option Value} (hn : s.heap.Ns env.locals m) (hm : m (S "addr") = some (.str x t)) (bare : AllBare s.gens) (hds : ds = bm 0 false x.cps.toList) :
  Seg (model PW w) A.in1 (RG [env.locals, e, it]) (YG fp [env.locals, e, it] ds) ds.length s (.func eh env) ((model PW w).den (.func eh env)) [] s := by
 have hp : (env.scope.kind == .class || (env.scope.kind == .module && env.locals != env.globals)) = false := by rw [B.V.kind]; rfl
 refine seg_func ?_
 show Seg _ _ _ _ _ _ _ ((execs [gS 0, gS 1, gS 2, gS 3] env).wrap KF (HF env) id id) _ _
 refine seg_execs_cons ?_
 rw [vJ]
 refine seg_wrap (wpAny_Assign_Name (wpAny_Constant_int (wpAny_storeName_local (B.V.loc _ yX) hn (fun h1 n1 s1 => ?_) hp)))
 refine seg_execs_cons ?_
 rw [vI]
 refine seg_wrap (wpAny_Assign_Name (wpAny_Constant_bool (wpAny_storeName_local (B.V.loc _ yY) n1 (fun h2 n2 s2 => ?_) hp)))
 refine seg_execs_cons ?_
 rw [vH]
 have hsz : h2.objs.size = s.heap.objs.size := s2.1.trans s1.1
 have hk : ∀ b ob, b ≠ env.locals → s.heap.get? b = some ob → h2.get? b = some ob := fun b ob hb e => s2.extBut b ob hb (s1.extBut b ob hb e)
 have El : ∀ a o, h₀.get? a = some o → h2.get? a = some o := fun a ob e => hk a ob (by rintro rfl; rw [B.hL] at e; cases e) (h0 a ob e)
 refine uH (fun x => rfl) ?_
 rw [cT]
 refine wpAny_bind (vf B.HO.bs El B.V yZ hen ?_)
 refine PySem.callWith_type rfl (Calls.evalArgs_plain (Calls.spliced_cons (wpAny_Name (wpAny_loadName_local B.V.kind (B.V.loc _ sx) n2 (v := .str x t) ?_ (Calls.spliced_nil ?_)) yK)))
 ·show (if S "addr" = S "escape" then _ else if S "addr" = S "pos" then _ else m (S "addr")) = _
  rw [if_neg Dg, if_neg Df]; exact hm
 refine call_enumerate_str fun h3 en si hs3 hk3 => ?_
 have en : IsEnum h3 (h2.objs.size + 1) h2.objs.size 0 .none := en
 have si : h3.IsStrIter h2.objs.size (strIterType x) x t 0 := si
 have hk3 : ∀ b ob, h2.get? b = some ob → h3.get? b = some ob := hk3
 have hty : strIterType x = "str_ascii_iterator" := by
  have := B.asc
  unfold strIterType
  rw [if_pos (by simpa [ar] using this)]
 rw [hsz, ← hi] at si
 rw [hsz, ← he, ← hi] at en
 rw [hty] at si
 show wpAny _ _ (pyIter (.ref (h2.objs.size + 1))) _ _ _
 rw [hsz, ← he]
 refine wpAny_pyIter_enum en fun kk p hkk => ?_
 refine q2_ hds ?_
 obtain ⟨oi, i1, i2, i3⟩ := si
 refine lI B (t := t) (fun f => by rw [hkk f]; cases f <;> rfl) x.cps.toList 0 false s _ rfl (List.suffix_refl _) ?_
 exact {
  h0 := fun a ob h => hk3 _ _ (El a ob h)
  fr := ⟨_, n2.keeps hk3, fun y d hy => by
   obtain ⟨hs, hl⟩ := BQ Eh hy
   refine ⟨B.V.loc _ hl, ?_⟩
   have hy : ([(S "pos", D.int ((0 - 1 : Nat) : Int)), (S "escape", D.bool false)] : aj).lookup y = some d := hy
   rw [List.lookup_cons] at hy
   cases e1 : y == S "pos" with
   | true =>
    rw [e1] at hy
    refine ox_ hy ?_
    rw [eq_of_beq e1, if_neg De, if_pos rfl]
    exact ⟨_, rfl, by exact ⟨_, rfl⟩⟩
   | false =>
    rw [e1] at hy
    simp only [List.lookup_cons, List.lookup_nil] at hy
    cases e2 : y == S "escape" with
    | true =>
     rw [e2] at hy
     refine ox_ hy ?_
     rw [eq_of_beq e2, if_pos rfl]
     exact ⟨_, rfl, rfl⟩
    | false => rw [e2] at hy; cases hy⟩
  hi := ⟨oi, i1, fun v e => by rw [i3] at e; cases e⟩
  he := ⟨_, en, fun v e => by cases e⟩
  st := .mk' bare fun b ob hb h => hk3 _ _ (hk b ob (by rintro rfl; simp at hb) h)
  en := ⟨_, en⟩
  si := ⟨oi, i1, i2, i3⟩ }
end
end
section
noncomputable def mO (h : Heap) : List Addr := (List.range h.objs.size).filter fun b => (h.get? b).isSome
theorem addrs_mem {h : Heap} {a : Addr} : a ∈ mO h ↔ ∃ o, h.get? a = some o := by
 unfold mO
 rw [List.mem_filter, List.mem_range, Option.isSome_iff_exists]
 exact ⟨fun h => h.2, fun ⟨o, e⟩ => ⟨Heap.lt_size e, o, e⟩⟩
noncomputable def mo (h : Heap) (L e it : Addr) : List Addr := L :: e :: it :: mO h
theorem fm : ∀ (names : List (Str × NameKind)) (n : Nat) (acc : List (Str × Addr)), (∀ p ∈ names, p.2 ≠ NameKind.cell) → cellsFrom n names acc = acc
 | [], _, _, _ => rfl
 | (y, kd) :: r, n, acc, h => by
  unfold cellsFrom
  have : kd ≠ NameKind.cell := h (y, kd) (List.mem_cons_self ..)
  rw [if_neg (by cases kd <;> first | (exact absurd rfl this) | decide)]
  exact fm r n acc fun p hp => h p (List.mem_cons_of_mem _ hp)
theorem rt {α : Type} {d : α} {rest l : List α} {i : Nat} (h : (d :: rest) <:+ l) (hn : rest.length + 1 = l.length - i) (hi : i ≤ l.length) : l[i]? = some d := by
 obtain ⟨pre, rfl⟩ := h
 have : pre.length = i := by simp at hn hi; omega
 clear hn hi; subst this
 simp
section
variable {w : World} {h₀ : Heap} {mg mb : Str → Option Value} {k : Nat} {o : aO} {env : Env} {A : Around} {x : Str} {t : Tok} {a : Addr} {gx i : Nat} {fp wr : List Addr} {ds : List D} {s : Shared}
structure GC (w : World) (h₀ : Heap) (mg mb : Str → Option Value) (k : Nat) (o : aO) (env : Env) (A : Around) (x : Str) (a : Addr) (ds : List D) : Prop where
 HO : cF w h₀ mg mb k o
 en : LoadB mg mb (S "enumerate") (.type "enumerate")
 V : SEnv fG env
 cells : env.cells = []
 nocell : ∀ y, env.kindOf y ≠ some .cell
 co : env.scope.isCoroutine = false
 hL : h₀.get? env.locals = none
 ha : h₀.get? a = none
 aL : a ≠ env.locals
 asc : ar x.cps.toList = true
 c0 : ∀ a o, h₀.get? a = some o → ∀ v, o.data ≠ .cell v
 R : Room (k + 1) A
 ds : ds = bm 0 false x.cps.toList
theorem GC.gb {e it : Addr} (G : GC w h₀ mg mb k o env A x a ds) (he : h₀.get? e = none) (hi : h₀.get? it = none) (ei : e ≠ it) (eL : e ≠ env.locals) (iL : it ≠ env.locals) : GB w h₀ mg mb k o env A x e it (mo h₀ env.locals e it) where
 HO := G.HO
 V := G.V
 cells := G.cells
 nocell := G.nocell
 co := G.co
 hL := G.hL
 he := he
 hi := hi
 ei := ei
 eL := eL
 iL := iL
 asc := G.asc
 fe := by simp [mo]
 fi := by simp [mo]
 fL := by simp [mo]
 f0 := fun b ob h => by simp only [mo, List.mem_cons]; exact .inr (.inr (.inr (addrs_mem.mpr ⟨ob, h⟩)))
 fs := fun b hb => by
  simp only [mo, List.mem_cons] at hb
  exact hb.imp_right (.imp_right (.imp_right addrs_mem.mp))
 c0 := G.c0
 R := G.R
noncomputable def D8 (w : World) (h₀ : Heap) (env : Env) (A : Around) (ds : List D) (gx : Nat) (e it : Addr) (gs : GenState) (n : Nat) (s : Shared) : Prop :=
 ∀ s'' : Shared, (∀ b ∈ mo h₀ env.locals e it, ∀ o, s.heap.get? b = some o → s''.heap.get? b = some o) → AllBare s''.gens →
  gs.Goes (model PW w) A.in1 (RG [env.locals, e, it]) (YG (mo h₀ env.locals e it) [env.locals, e, it] ds) n (.send .none) s''
inductive GA (w : World) (h₀ : Heap) (env : Env) (A : Around) (x : Str) (t : Tok) (a : Addr) (ds : List D) (gx : Nat) (i : Nat) (fp wr : List Addr) (s : Shared) : Prop
 | fresh (e1 : i = 0) (e2 : fp = a :: env.locals :: mO h₀) (e3 : wr = [env.locals]) (h1 : s.gens[gx]? = some (.fresh (.func eh env))) (m : Str → Option Value) (hn : s.heap.Ns env.locals m) (hm : m (S "addr") = some (.str x t)) : GA w h₀ env A x t a ds gx i fp wr s
 | on (e it : Addr) (gs : GenState) (e1 : fp = a :: mo h₀ env.locals e it) (e2 : wr = [env.locals, e, it]) (he : h₀.get? e = none) (hi : h₀.get? it = none) (ae : a ≠ e) (ai : a ≠ it) (h1 : s.gens[gx]? = some gs) (sh : ∀ b ∈ mo h₀ env.locals e it, ∃ o, s.heap.get? b = some o ∧ ∀ v, o.data ≠ .cell v)
  (hl : D8 w h₀ env A ds gx e it gs (ds.length - i) s) : GA w h₀ env A x t a ds gx i fp wr s
noncomputable def PstG (w : World) (h₀ : Heap) (env : Env) (A : Around) (x : Str) (t : Tok) (a : Addr) (ds : List D) (gx : Nat) (i : Nat) (fp wr : List Addr) (s : Shared) : Prop :=
 (∀ b ob, h₀.get? b = some ob → s.heap.get? b = some ob) ∧ s.heap.IsGen a gx ∧ GA w h₀ env A x t a ds gx i fp wr s
inductive wW (w : World) (h₀ : Heap) (env : Env) (A : Around) (a : Addr) (ds : List D) (gx i : Nat) (fp wr : List Addr) (s : Shared) : Prop
 | mk (e it : Addr) (gs : GenState) (b1 : s.gens[gx]? = some gs) (b2 : h₀.get? e = none) (b3 : h₀.get? it = none) (b4 : a ≠ e) (b5 : a ≠ it) (b6 : ∀ b ∈ mo h₀ env.locals e it, b ∈ fp ∨ s.heap.get? b = none) (b7 : ∀ b ∈ [env.locals, e, it], b ∈ wr ∨ s.heap.get? b = none) (b8 : a ∈ fp)
  (b9 : gs.Goes (model PW w) A.in1 (RG [env.locals, e, it]) (YG (mo h₀ env.locals e it) [env.locals, e, it] ds) (ds.length - i) (.send .none) (s.setGen gx .running)) : wW w h₀ env A a ds gx i fp wr s
theorem ju {gs : GenState} (h : AllBare s.gens) (hg : gs.bare = true) : AllBare (s.setGen gx gs).gens := fun y hy => by
 have hy : y ∈ s.gens.setIfInBounds gx gs := hy
 obtain ⟨j, hj, rfl⟩ := Array.mem_iff_getElem.mp hy
 rw [Array.getElem_setIfInBounds]
 ·split
  ·exact hg
  ·exact h _ (Array.getElem_mem _)
 ·simpa using hj
theorem PstG.wake (G : GC w h₀ mg mb k o env A x a ds) (P : PstG w h₀ env A x t a ds gx i fp wr s) (hb : AllBare s.gens) :
  wW w h₀ env A a ds gx i fp wr s := by
 obtain ⟨h0, hgen, ⟨rfl, rfl, rfl, hg, m, hn, hm⟩ | ⟨e, it, gs, rfl, rfl, he, hi, ae, ai, hg, hsh, hl⟩⟩ := P
 ·have non : ∀ b, s.heap.objs.size ≤ b → s.heap.get? b = none := fun b hb => by
   cases e : s.heap.get? b with
   | none => rfl
   | some ob => exact absurd (Heap.lt_size e) (Nat.not_lt.mpr hb)
  have none0 : ∀ b, s.heap.objs.size ≤ b → h₀.get? b = none := fun b hb => by
   cases e : h₀.get? b with
   | none => rfl
   | some ob => have := h0 _ _ e; rw [non b hb] at this; cases this
  have hLs : env.locals < s.heap.objs.size := by obtain ⟨ob, es, ep, h1, _⟩ := hn; exact Heap.lt_size h1
  have has : a < s.heap.objs.size := by obtain ⟨ob, _, _, h1, _⟩ := hgen; exact Heap.lt_size h1
  refine ⟨s.heap.objs.size + 1, s.heap.objs.size, _, hg, none0 _ (Nat.le_succ _), none0 _ (Nat.le_refl _), Nat.ne_of_lt (Nat.lt_succ_of_lt has), Nat.ne_of_lt has, fun b hb => ?_, fun b hb => ?_, List.mem_cons_self .., rfl, ?_⟩
  ·simp only [mo, List.mem_cons] at hb
   rcases hb with rfl | rfl | rfl | hb
   ·exact .inl (by simp)
   ·exact .inr (non _ (Nat.le_succ _))
   ·exact .inr (non _ (Nat.le_refl _))
   ·exact .inl (by simp [hb])
  ·simp only [List.mem_cons, List.not_mem_nil, or_false] at hb
   rcases hb with rfl | rfl | rfl
   ·exact .inl (by simp)
   ·exact .inr (non _ (Nat.le_succ _))
   ·exact .inr (non _ (Nat.le_refl _))
  ·have := G.gb (e := s.heap.objs.size + 1) (it := s.heap.objs.size) (none0 _ (Nat.le_succ _)) (none0 _ (Nat.le_refl _)) (Nat.succ_ne_self _) (Nat.ne_of_gt (Nat.lt_succ_of_lt hLs)) (Nat.ne_of_gt hLs)
   exact p5 (s := s.setGen gx .running) this G.en rfl rfl h0 hn hm (ju hb rfl) G.ds
 ·exact ⟨e, it, gs, hg, he, hi, ae, ai, fun b hb => .inl (List.mem_cons_of_mem _ hb), fun b hb => .inl hb, List.mem_cons_self .., hl _ (fun b _ o h => h) (ju hb rfl)⟩
end
end
section
section
variable {w : World} {h₀ : Heap} {mg mb : Str → Option Value} {k : Nat} {o : aO} {env : Env} {A : Around} {x : Str} {t : Tok} {a : Addr} {gx i : Nat} {fp wr : List Addr} {ds : List D} {s s₁ : Shared}
theorem mn {wr' : List Addr} {gi : Option Nat} (X : Stepd wr' none (s.setGen gx .running) s₁) {gs' : GenState} (hb : gs'.bare = true) (hw : ∀ b ∈ wr', b ∈ wr ∨ s.heap.get? b = none) : Stepd wr (some gx) s (s₁.setGen gx gs') where
 heap := fun b o hb e => X.heap b o (fun hm => by
  rcases hw b hm with h | h
  ·exact hb h
  ·rw [e] at h; cases h) e
 os := X.os
 bare := ju X.bare hb
 gens := fun j y hj e => by
  have hne : gx ≠ j := fun h => hj (by rw [h])
  have e1 : (s.setGen gx .running).gens[j]? = some y := by
   show (s.gens.setIfInBounds gx .running)[j]? = _
   rw [Array.getElem?_setIfInBounds_ne hne]; exact e
  have := X.gens j y (by simp) e1
  show (s₁.gens.setIfInBounds gx gs')[j]? = _
  rw [Array.getElem?_setIfInBounds_ne hne]; exact this
theorem xb (G : GC w h₀ mg mb k o env A x a ds) : Wk w A (.ref a) (some gx) ds.length (fun i v s s' wr' => ∃ d, ds[i]? = some d ∧ NewTup v d s s' wr') (PstG w h₀ env A x t a ds gx) where
 sub := fun i fp wr s ⟨_, _, P⟩ => by
  rcases P with ⟨_, rfl, rfl, _⟩ | ⟨e, it, gs, rfl, rfl, _⟩
  ·intro b hb
   rw [List.mem_singleton.mp hb]; simp
  ·intro b hb
   simp only [List.mem_cons, List.not_mem_nil, or_false] at hb
   simp only [mo, List.mem_cons]
   rcases hb with h | h | h <;> simp [h]
 frame := fun i fp wr s s' ⟨h0, hgen, P⟩ hk hg => by
  have ha : a ∈ fp := by rcases P with ⟨_, rfl, _⟩ | ⟨e, it, gs, rfl, _⟩ <;> exact List.mem_cons_self ..
  have hin : ∀ b ob, h₀.get? b = some ob → b ∈ fp := fun b ob h => by
   have := addrs_mem.mpr ⟨ob, h⟩
   clear hk ha; rcases P with ⟨_, rfl, _⟩ | ⟨e, it, gs, rfl, _⟩ <;> simp [mo, this]
  refine ⟨fun b ob h => hk b (hin b ob h) ob (h0 b ob h), ?_, ?_⟩
  ·obtain ⟨og, nm, qn, h1, r⟩ := hgen
   exact ⟨og, nm, qn, hk a ha og h1, r⟩
  ·rcases P with ⟨e1, e2, e3, h1, m, ⟨ol, es, ep, h2, r⟩, h3⟩ | ⟨e, it, gs, e1, e2, he, hi, ae, ai, h1, sh, hl⟩
   ·exact .fresh e1 e2 e3 (hg _ _ h1) m ⟨ol, es, ep, hk _ (by rw [e2]; simp) _ h2, r⟩ h3
   ·have hin : ∀ b ∈ mo h₀ env.locals e it, b ∈ fp := fun b hb => by rw [e1]; exact List.mem_cons_of_mem _ hb
    exact .on e it gs e1 e2 he hi ae ai (hg _ _ h1) (fun b hb => let ⟨ob, h2, h3⟩ := sh b hb; ⟨ob, hk b (hin b hb) _ h2, h3⟩) fun s'' hk' hb => hl s'' (fun b hb ob h => hk' b hb ob (hk b (hin b hb) ob h)) hb
 shape := fun i fp wr s ⟨h0, hgen, P⟩ => by
  have h1 : ∃ ob, s.heap.get? a = some ob ∧ ∀ v, ob.data ≠ .cell v := by
   obtain ⟨og, nm, qn, h1, _, h2, _⟩ := hgen
   exact ⟨og, h1, fun v e => by rw [h2] at e; cases e⟩
  rcases P with ⟨_, rfl, rfl, _, m, ⟨ol, es, ep, h2, h3, _⟩, _⟩ | ⟨e, it, gs, rfl, rfl, _, _, _, _, _, sh, _⟩
  ·intro b hb
   simp only [List.mem_cons] at hb
   clear hgen; rcases hb with rfl | rfl | hb
   ·exact h1
   ·exact ⟨ol, h2, fun v e => by rw [h3] at e; cases e⟩
   ·obtain ⟨ob, h⟩ := addrs_mem.mp hb
    exact ⟨ob, h0 _ _ h, G.c0 _ _ h⟩
  ·intro b hb
   clear G hgen; rcases List.mem_cons.mp hb with rfl | hb
   ·exact h1
   ·exact sh b hb
 item := fun i fp wr s Q E hb hi P hQ => by
  obtain ⟨e, it, gs, hg, he, hit, ae, ai, hfp, hwr, ha, hgo⟩ := P.wake G hb
  obtain ⟨h0, hgen, _⟩ := P
  obtain ⟨m, hm⟩ : ∃ m, ds.length - i = m + 1 := ⟨ds.length - i - 1, by lia⟩
  rw [hm] at hgo
  have hroom := G.R.dp
  refine lU G.R.hd (G.HO.bs.nolimit.keeps h0) (by lia) hgen hg hgo (fun v s₁ gs' hgb hy => ?_) fun s₁ hp => ?_
  ·obtain ⟨d, rest, h1, h2, h3, h4, h5, h6⟩ := hy
   have hw : a ∉ [env.locals, e, it] := by simp [G.aL, ae, ai]
   have X := mn (gi := some gx) h4 hgb hwr
   refine hQ v _ (a :: mo h₀ env.locals e it) [env.locals, e, it] ⟨d, rt h1 (by lia) (by lia), h3⟩ ⟨fun b ob h => ?_, ?_, .on e it gs' rfl rfl he hit ae ai ?_ h5 fun s'' hk hb => ?_⟩ X (fun b hb => ?_) hwr
   ·exact h4.heap b ob (by
     simp only [List.mem_cons, List.not_mem_nil, or_false, not_or]
     refine ⟨?_, ?_, ?_⟩ <;> rintro rfl
     ·rw [G.hL] at h; cases h
     ·rw [he] at h; cases h
     ·rw [hit] at h; cases h) (h0 b ob h)
   ·obtain ⟨og, nm, qn, h1, r⟩ := hgen
    exact ⟨og, nm, qn, h4.heap a og hw h1, r⟩
   ·have hsz : gx < s₁.gens.size := by
     have e1 : (s.setGen gx .running).gens[gx]? = some .running := by
      show (s.gens.setIfInBounds gx .running)[gx]? = _
      rw [Array.getElem?_setIfInBounds_self_of_lt (Array.getElem?_eq_some_iff.mp hg).1]
     exact (Array.getElem?_eq_some_iff.mp (h4.gens gx _ (by simp) e1)).1
    show (s₁.gens.setIfInBounds gx gs')[gx]? = _
    rw [Array.getElem?_setIfInBounds_self_of_lt hsz]
   ·have := h6 s'' (fun b hb ob h => hk b hb ob h) hb
    have em : ds.length - (i + 1) = m := by lia
    rw [em]
    exact this
   ·clear G hQ ae ai hgen hw; rcases List.mem_cons.mp hb with rfl | hb
    ·exact .inl ha
    ·exact hfp b hb
  ·cases hp.1
 done := fun fp wr s Q E hb P hQ => by
  obtain ⟨e, it, gs, hg, he, hit, ae, ai, hfp, hwr, ha, hgo⟩ := P.wake G hb
  obtain ⟨h0, hgen, _⟩ := P
  rw [Nat.sub_self] at hgo
  have hroom := G.R.dp
  refine lU G.R.hd (G.HO.bs.nolimit.keeps h0) (by lia) hgen hg hgo (fun v s₁ gs' hgb hy => ?_) fun s₁ hp h' hk => ?_
  ·obtain ⟨d, rest, h1, h2, h3, h4, h5, h6⟩ := hy
   exact (h6 s₁ (fun _ _ _ h => h) h4.bare).elim
  ·have X := mn (gi := some gx) hp.2 (gs' := .finished) rfl hwr
   exact hQ _ ⟨fun b ob hb h => hk b ob (X.heap b ob hb h), X.os, X.bare, X.gens⟩
 self := fun i fp wr s Q E ⟨_, hgen, _⟩ hQ => wpAny_pyIter_gen hgen hQ
 go := fun i fp wr s elts kk pos v Q E ⟨_, hgen, _⟩ hQ => by
  obtain ⟨og, nm, qn, h1, h2, _⟩ := hgen
  exact ie h1 h2 (by decide) hQ
end
end
section
noncomputable def u7 (k : NameKind) : Bool := match k with | .cell => false | _ => true
theorem qr : fG.sc.all (fun p => u7 p.2) = true := by kernel_rfl
theorem vD : fG.canSet (S "addr") = true := by kernel_rfl
section
variable {w : World} {h₀ : Heap} {mg mb : Str → Option Value} {k : Nat} {o : aO} {l : List Nat} {fd : FuncData} {fa : Addr}
inductive GQ (h₀ : Heap) (C : Cx) (env : Env) (g : PH) (μ : Mu) (s : Shared) (σ : aa) (τ : List (Value × D)) (binds : List (Str × Value)) (l : List Nat) (fd : FuncData) (env' : Env) (s₂ : Shared) : Prop
 | mk (s₁ : Shared) (ow : List Addr) (O : Ow C env g s ow) (hk : ∀ b o, s.heap.get? b = some o → s₁.heap.get? b = some o) (hL : env'.locals ∈ ow) (hsc : env'.scope = fd.scope) (hce : env'.cells = cellsFrom (s.heap.objs.size + 1) fd.scope.names []) (V : SEnv fG env')
  (S' : St h₀ (Cx.all C g μ σ s₁ ow) env' g μ (aS [] ((binds.map (·.1)).zip [.str l])) σ τ s₂)
theorem zi (HO : cF w h₀ mg mb k o) (hen : LoadB mg mb (S "enumerate") (.type "enumerate")) (c0 : ∀ a o, h₀.get? a = some o → ∀ v, o.data ≠ .cell v) (FO : FnObj h₀ fa fd eh fG true) (hb : hH w h₀ fd [.str l] [] [S "addr"] [.str l]) :
  GenJ w h₀ (k + 1) fa [.str l] (bm 0 false l) := by
 intro C env g μ ρ σ τ vs A s R S hvs
 obtain ⟨ob, ho, hd, _⟩ := FO.obj
 have hdp := R.dp
 refine wpAny_call ?_
 refine codeAny_call_generator (by lia) (S.baseK _ _ ho) hd FO.co FO.gen FO.body (FO.code.keeps S.baseK) ?_
 refine wpAny_mono (hb C env g μ ρ σ τ vs A.in1 s _ S hvs fun binds h1 h2 => ?_) (fun _ _ h => h) fun _ _ x => x.elim
 refine wpAny_mono (gu 0 (.inl ⟨rfl, rfl⟩) FO S (binds := binds) (ds := [.str l]) (fun x hx => ?_) h2 (Q := fun env' s₂ => GQ h₀ C env g μ s σ τ binds l fd env' s₂) fun env' s₁ s' ow O _ hk hos hL hsc hce V hbase S' => ⟨s₁, ow, O, hk, hL, hsc, hce, V, by simpa only [List.drop_zero] using S'⟩) (fun env' s₂ h => ?_) fun _ _ x => x.elim
 ·have : x.1 ∈ [Mine.S "addr"] := h1 ▸ List.mem_map.mpr ⟨x, hx, rfl⟩
  rw [List.mem_singleton.mp this]
  exact vD
 obtain ⟨s₁, ow, O, hk, hL, hsc, hce, V, S'⟩ := h
 have T := S.exit O hk hL S'
 refine ⟨HO.bs.nolimit.keeps S'.baseK, ?_⟩
 have hal := bg s₂.heap
 have hkeep : ∀ (ob : Obj) b o, s₂.heap.get? b = some o → (s₂.heap.push ob).get? b = some o := fun ob b o e => Heap.get?_push_of_some _ e
 have hncell : ∀ p ∈ fd.scope.names, p.2 ≠ NameKind.cell := fun p hp => by
  have := List.all_eq_true.mp qr p (FO.sc ▸ hp)
  intro e
  rw [e] at this
  cases this
 -- the string
 obtain ⟨m, hn, hm⟩ := S'.loc
 rw [h1] at hm
 obtain ⟨v, hv, hrv⟩ := hm (Mine.S "addr") (.str l) (by rfl) (V.loc _ sx)
 obtain ⟨hasc, t, rfl⟩ := hrv
 have hLs : env'.locals < s₂.heap.objs.size := by obtain ⟨ob, es, ep, h1, _⟩ := hn; exact Heap.lt_size h1
 obtain ⟨f1, f2, f3, f4⟩ := T.fresh hal
 have hL0 : h₀.get? env'.locals = none := by
  cases e : h₀.get? env'.locals with
  | none => rfl
  | some ob => have := S'.base _ _ e; rw [S'.ownΦ] at this; cases this
 have ha0 : h₀.get? s₂.heap.objs.size = none := by
  cases e : h₀.get? s₂.heap.objs.size with
  | none => rfl
  | some ob => have := T.base _ _ e; rw [f1] at this; cases this
 have G : GC w h₀ mg mb k o env' A ⟨l.toArray⟩ s₂.heap.objs.size (bm 0 false l) := {
  HO := HO
  en := hen
  V := V
  cells := by rw [hce]; exact fm _ _ _ hncell
  nocell := fun y hy => by
   have hy : env'.scope.names.lookup y = some .cell := hy
   rw [hsc] at hy
   exact hncell _ (mem_of_lookup hy) rfl
  co := by rw [hsc]; exact FO.co
  hL := hL0
  ha := ha0
  aL := Nat.ne_of_gt hLs
  asc := by simpa using hasc
  c0 := c0
  R := R
  ds := by simp }
 generalize hgo : ({ cls := .type "generator", data := .fields #[.int s₂.gens.size 0, .str fd.name s₂.toks, .str fd.qualname (s₂.toks + 1)] } : Obj) = gob
 have hgo1 : gob.isFreed = false := by subst hgo; rfl
 have hgen : (s₂.heap.push gob).IsGen s₂.heap.objs.size s₂.gens.size := ⟨gob, _, _, Heap.get?_push_size _ hgo1, by subst hgo; rfl, by subst hgo; rfl, by subst hgo; rfl⟩
 refine wpAny_pyIter_gen hgen ⟨g, μ, s₂.heap.objs.size :: env'.locals :: mO h₀, [env'.locals], some s₂.gens.size, _, _, xb (t := t) (gx := s₂.gens.size) G, ⟨fun b ob h => hkeep _ _ _ (T.baseK b ob h), hgen, .fresh rfl rfl rfl Array.getElem?_push_size m (hn.keeps (hkeep _)) hv⟩, ?_, ?_, fun i v s s' wr' hi ⟨d, h1, h2⟩ => ⟨d, h1, .inr h2⟩, fun i e => by cases e⟩
 ·refine ⟨fun b hb => ?_, fun b hb i so x m hi hl hm e => ?_, fun b hb i so x m hi hl hm e => ?_, fun b hb => ?_, fun b hb => ?_, fun j hj => ?_⟩
  ·simp only [List.mem_cons] at hb
   rcases hb with rfl | rfl | hb
   ·exact f3
   ·rintro e
    exact O.loc (e ▸ hL)
   ·obtain ⟨ob, h⟩ := addrs_mem.mp hb
    clear hb; rintro rfl
    have := T.base _ _ h
    rw [T.ownΦ] at this; cases this
  ·subst e
   simp only [List.mem_cons] at hb
   rcases hb with rfl | rfl | hb
   ·exact f4 i so x _ hi hl.occ hm rfl
   ·have kk := S'.stoAt hi hm
    cases so with
    | dead => cases hl
    | lock l => cases hl
    | lst l => exact kk.e4 rfl
    | inst c fs => exact kk.e4 rfl
   ·obtain ⟨ob, h⟩ := addrs_mem.mp hb
    exact T.not_live (T.base _ _ h) ⟨i, so, x, hi, hl, hm⟩
  ·subst e
   rw [List.mem_singleton.mp hb] at hm
   have kk := S'.stoAt hi hm
   cases so with
   | dead => cases hl
   | lock l => exact kk.e4 rfl
   | lst l => exact kk.e4 rfl
   | inst c fs => exact kk.e4 rfl
  ·rw [List.mem_singleton.mp hb]; exact O.Φ _ hL
  ·rw [List.mem_singleton.mp hb]; exact O.g _ hL
  ·refine ox_ hj ?_
   cases e : C.gn[s₂.gens.size]? with
   | none => rfl
   | some y =>
    have := (Array.getElem?_eq_some_iff.mp (T.gens _ _ e)).1
    lia
 ·have T3 := T.more (h' := s₂.heap.push gob) (hkeep _) (s₂.toks + 1 + 1)
  exact { T3 with
   bare := T.bare.push rfl
   gens := fun i y h => by
    obtain ⟨hi, e⟩ := Array.getElem?_eq_some_iff.mp (T.gens i y h)
    show (s₂.gens.push _)[i]? = some y
    rw [Array.getElem?_push_lt hi, e] }
end
end
section
noncomputable def GN : Obj := { cls := .none, data := .freed }
noncomputable def hz (P : Params) : Heap := { kQ P with objs := (kQ P).objs.setIfInBounds 6 GN }
theorem y6 (P : Params) : (hz P).isNs mainGlobals = true := by kernel_rfl
theorem y8 (P : Params) : (hz P).isNs builtinsNs = true := by kernel_rfl
theorem y7 (P : Params) : (hz P).isNs cStatics = true := by kernel_rfl
theorem F5 (P : Params) : (hz P).nsMap cStatics "sys.recursionlimit" = none := by kernel_rfl
theorem wK (P : Params) : (hz P).get? 6 = none := by kernel_rfl
theorem y9 (P : Params) : (kQ P).isNs 6 = true := by kernel_rfl
end
section
noncomputable def u6 (k : NameKind) : Bool := match k with | .free => false | _ => true
noncomputable def Dw (k : ScopeKind) : Bool := match k with | .function => true | _ => false
noncomputable def Dv (v : Value) (n : String) : Bool := match v with | .type m => m == n | _ => false
noncomputable def zo (o : Obj) : FuncData := match o.data with | .func fd => fd | _ => default
noncomputable def zc (o : Obj) : Bool := match o.data with | .func _ => true | _ => false
noncomputable def jE (h : Heap) (a : Addr) : Obj := (h.get? a).getD default
noncomputable def cS (h : Heap) (a : Addr) : FuncData := zo (jE h a)
noncomputable def wb (v : Option Value) (q : Str) : Bool := match v with | some (.str q' _) => q' == q | _ => false
noncomputable def kT (o : Obj) : Option (Array Value) := match o.data with | .fields vs => some vs | _ => none
noncomputable def rM (v : Value) : Option Addr := match v with | .ref c => some c | _ => none
noncomputable def th (h : Heap) (cd : Value) (q : Str) : Bool := (((rM cd).bind fun c => (h.get? c).bind kT).map fun vs => wb vs[1]? q).getD false
theorem xJ {v : Value} {c : Addr} (h : rM v = some c) : v = .ref c := by cases v <;> cases h; rfl
theorem vr {o : Obj} {vs : Array Value} (h : kT o = some vs) : o.data = .fields vs := by
 unfold kT at h
 generalize o.data = x at h ⊢
 cases x <;> cases h; rfl
theorem DL {o : Obj} (h : zc o = true) : o.data = .func (zo o) := by
 unfold zc at h
 unfold zo
 generalize o.data = x at h ⊢
 cases x <;> first | rfl | cases h
theorem Du {v : Value} {n : String} (h : Dv v n = true) : v = .type n := by
 cases v <;> first | exact eY h | exact congrArg _ (eq_of_beq h)
theorem xu {v : Option Value} {q : Str} (h : wb v q = true) : ∃ t, v = some (.str q t) := by
 cases v with
 | none => exact eY h
 | some v => cases v <;> first | exact eY h | exact ⟨_, by rw [← eq_of_beq h]⟩
theorem zx {h : Heap} {cd : Value} {q : Str} (e : th h cd q = true) : h.CodeRec cd q := by
 unfold th at e
 cases h1 : (rM cd).bind fun c => (h.get? c).bind kT with
 | none => rw [h1] at e; cases e
 | some vs =>
  rw [h1] at e
  revert h1; refine bE fun c h1 => ?_
  refine bE fun o h2 h3 => ?_
  obtain ⟨t, hv⟩ := xu e
  exact ⟨c, o, vs, t, xJ h1, h2, vr h3, hv⟩
noncomputable def pz (h : Heap) (a : Addr) (isg : Bool) : Bool := (h.get? a).isSome && zc (jE h a) && Dv (jE h a).cls "function" && !(cS h a).scope.isCoroutine && ((cS h a).scope.isGenerator == isg) && Dw (cS h a).scope.kind &&
 ((cS h a).globals == mainGlobals) && ((cS h a).builtins == builtinsNs) && (cS h a).closure.isEmpty && th h (cS h a).code (cS h a).qualname && (cS h a).scope.names.all fun p => u6 p.2
theorem FnObj.of {h : Heap} {a : Addr} {isg : Bool} {f : Fn} {body : List Stmt} (c : pz h a isg = true) (hb : (cS h a).body = .stmts body) (hs : f.sc = (cS h a).scope.names) (ho : f.own = true) : FnObj h a (cS h a) body f isg := by
 simp only [pz, Bool.and_eq_true, Bool.not_eq_true', List.isEmpty_iff] at c
 obtain ⟨⟨⟨⟨⟨⟨⟨⟨⟨⟨c1, c2⟩, c3⟩, c4⟩, c5⟩, c6⟩, c7⟩, c8⟩, c9⟩, c10⟩, c11⟩ := c
 obtain ⟨ob, hob⟩ := Option.isSome_iff_exists.mp c1
 have e : jE h a = ob := by unfold jE; rw [hob]; rfl
 refine ⟨⟨ob, hob, ?_, ?_⟩, hb, c4, eq_of_beq c5, ?_, eq_of_beq c7, eq_of_beq c8, c9, zx c10, hs, ho, fun p hp e => ?_⟩
 ·unfold cS
  rw [e] at c2 ⊢
  exact DL c2
 ·exact Du (e ▸ c3)
 ·generalize (cS h a).scope.kind = kd at c6
  cases kd <;> first | rfl | cases c6
 ·have := List.all_eq_true.mp c11 p hp
  rw [e] at this
  cases this
section
variable {w : World} {h₀ : Heap} {fd : FuncData} {x y z : Str} {d e f : D}
theorem D2 (h : ∀ v, bindArgs fd ⟨[v], []⟩ = pure [(x, v)]) : hH w h₀ fd [d] [] [x] [d] := by
 intro C env g μ ρ σ τ vs A s Q S hr hQ
 obtain ⟨v, rfl, _⟩ := wj hr
 show wpAny _ _ (bindArgs fd ⟨[v], []⟩) _ _ _
 rw [h v]
 exact wpAny_pure (hQ _ rfl hr)
end
theorem t1 (P : Params) : pz (hz P) 45 true = true := by kernel_rfl
theorem t2 (P : Params) : (cS (hz P) 45).body = .stmts eh := by kernel_rfl
theorem t3 (P : Params) : fG.sc = (cS (hz P) 45).scope.names := by kernel_rfl
theorem t4 (P : Params) (v : Value) : bindArgs (cS (hz P) 45) ⟨[v], []⟩ = pure [(S "addr", v)] := by kernel_rfl
end
section
noncomputable def np (w : World) : Str → Option Value := (hz w.params).nsMap mainGlobals
noncomputable def nr (w : World) : Str → Option Value := (hz w.params).nsMap builtinsNs
theorem GW (w : World) : Bs w (hz w.params) (np w) (nr w) := ⟨.of_isNs (y6 _), .of_isNs (y8 _), ⟨_, .of_isNs (y7 _), F5 _⟩⟩
noncomputable def ld (P : Params) (x : Str) : Option Value := ((hz P).nsMap mainGlobals x).or ((hz P).nsMap builtinsNs x)
theorem LoadB.of {w : World} {x : Str} {v : Value} (h1 : (x == ("__debug__" : Str)) = false) (h2 : ld w.params x = some v) : LoadB (np w) (nr w) x v := by
 exact ⟨h1, Option.or_eq_some_iff.mp h2⟩
theorem dF {α β γ : Type} [BEq α] [LawfulBEq α] {l : List (α × β)} {x : α} {b : β} (h : l.lookup x = some b) {f g : α × β → γ} (e : l.map f = l.map g) : f (x, b) = g (x, b) := by
 have hm : (x, b) ∈ l := by
  induction l with
  | nil => exact aW h
  | cons p l ih =>
   obtain ⟨y, c⟩ := p
   rw [List.lookup_cons] at h
   cases hx : x == y with
   | true =>
    rw [hx] at h
    refine ox_ h ?_
    rw [eq_of_beq hx]; exact List.mem_cons_self ..
   | false =>
    rw [hx] at h
    exact List.mem_cons_of_mem _ (ih h (List.cons.inj e).2)
 exact List.map_inj_left.mp e _ hm
theorem Gy (P : Params) : bfs.map (fun p => (p.1 == ("__debug__" : Str), ld P p.1)) = bfs.map (fun p => (false, some p.2.val)) := by kernel_rfl
theorem zG (w : World) : ∀ x F, bfs.lookup x = some F → LoadB (np w) (nr w) x F.val := fun x F h => by
 have := dF h (Gy w.params)
 exact .of (congrArg Prod.fst this) (congrArg Prod.snd this)
theorem yS (w : World) : LoadB (np w) (nr w) (S "list") (.type "list") := .of (by kernel_rfl) (by kernel_rfl)
theorem xI (w : World) : LoadB (np w) (nr w) (S "range") (.type "range") := .of (by kernel_rfl) (by kernel_rfl)
theorem zu (w : World) : LoadB (np w) (nr w) (S "enumerate") (.type "enumerate") := .of (by kernel_rfl) (by kernel_rfl)
noncomputable def Ba : Value → Option D
 | .int i _ => some (.int i)
 | .ref a => some (.base a)
 | .type n => some (.typ n)
 | _ => none
theorem A9 {v : Value} {d : D} (h : Ba v = some d) : ∀ μ g, Rd μ g v d := fun μ g => by
 cases v <;> first | exact aW h | skip
 all_goals (cases h; first | rfl | skip)
 exact ⟨_, rfl⟩
noncomputable def globT : List (Str × D) := [(S "EXACT_TOKEN_TYPES", .base 126), (S "ENDMARKER", .int 0), (S "LPAR", .int 7), (S "RPAR", .int 8), (S "PLUS", .int 14), (S "DOUBLESLASH", .int 47), (S "NT_OFFSET", .int 256), (S "Whitespace", .base 121), (S "list", .typ "list"), (S "str", .typ "str"),
 (S "_name_disallowed_re", .base 147), (S "_value_disallowed_re", .base 152)]
theorem DD (P : Params) : globT.map (fun p => (p.1 == ("__debug__" : Str), (ld P p.1).bind Ba)) = globT.map (fun p => (false, some p.2)) := by kernel_rfl
theorem vp (w : World) : ∀ x d, globT.lookup x = some d → ∃ v, LoadB (np w) (nr w) x v ∧ ∀ μ g, Rd μ g v d := fun x d h => by
 have := dF h (DD w.params)
 obtain ⟨v, h1, h2⟩ := Option.bind_eq_some_iff.mp (congrArg Prod.snd this)
 exact ⟨v, .of (congrArg Prod.fst this) h1, A9 h2⟩
noncomputable def tokT : List (Str × Int) := [(S "!", 54), (S "!=", 28), (S "%", 24), (S "%=", 40), (S "&", 19), (S "&=", 41), (S "(", 7), (S ")", 8), (S "*", 16), (S "**", 35), (S "**=", 46), (S "*=", 38), (S "+", 14), (S "+=", 36), (S ",", 12), (S "-", 15), (S "-=", 37), (S "->", 51), (S ".", 23), (S "...", 52), (S "/", 17), (S "//", 47), (S "//=", 48), (S "/=", 39), (S ":", 11), (S ":=", 53), (S ";", 13), (S "<", 20), (S "<<", 33), (S "<<=", 44), (S "<=", 29), (S "=", 22), (S "==", 27), (S ">", 21), (S ">=", 30), (S ">>", 34), (S ">>=", 45), (S "@", 49), (S "@=", 50), (S "[", 9), (S "]", 10), (S "^", 32), (S "^=", 43), (S "{", 25), (S "|", 18), (S "|=", 42), (S "}", 26), (S "~", 31)]
noncomputable def tab0 : List (List Nat × D) := tokT.map fun p => (p.1.cps.toList, .int p.2)
noncomputable def Gu (o : Obj) : Array DictEntry := match o.data with | .dict es _ => es | _ => #[]
noncomputable def Hr (o : Obj) : Nat := match o.data with | .dict _ n => n | _ => 0
noncomputable def zV (P : Params) : Array DictEntry := Gu (jE (hz P) 126)
noncomputable def F6 (v : Value) : Str := match v with | .str s _ => s | _ => S ""
noncomputable def Dr (v : Value) : Tok := match v with | .str _ t => t | .int _ t => t | _ => 0
noncomputable def Gc (v : Value) : Int := match v with | .int i _ => i | _ => 0
noncomputable def qs (l : List DictEntry) : List (Str × Tok × Int × Tok) := l.map fun e => (F6 e.key, Dr e.key, Gc e.val, Dr e.val)
noncomputable def dQ (P : Params) (q : Str × Tok × Int × Tok) : DictEntry := dE P q.1 q.2.1 (.int q.2.2.1 q.2.2.2)
theorem EF (P : Params) : (hz P).get? 126 = some ⟨.type "dict", none, .dict (zV P) (Hr (jE (hz P) 126)), #[]⟩ := by kernel_rfl
theorem Bi (P : Params) : (zV P).toList = (qs (zV P).toList).map (dQ P) := by kernel_rfl
theorem EE (P : Params) : (qs (zV P).toList).map (fun q => (q.1, q.2.2.1)) = tokT := by kernel_rfl
theorem ig {P : Params} : ∀ l : List (Str × Tok × Int × Tok), KeysLit P (l.map (dQ P))
 | [] => trivial
 | q :: l => ⟨⟨q.1, q.2.1, rfl, rfl⟩, ig l⟩
theorem mr {P : Params} (x : List Nat) : ∀ l : List (Str × Tok × Int × Tok), match ((l.map fun q => (q.1, q.2.2.1)).map fun p : Str × Int => (p.1.cps.toList, D.int p.2)).lookup x with
  | some d => ∃ i tk, d = .int i ∧ ((l.map (dQ P)).find? fun e => Value.isStrOf ⟨x.toArray⟩ e.key).map (·.val) = some (.int i tk)
  | none => ((l.map (dQ P)).find? fun e => Value.isStrOf ⟨x.toArray⟩ e.key).map (·.val) = none
 | [] => rfl
 | q :: l => by
  have ih := mr (P := P) x l
  simp only [List.map_cons, List.lookup_cons]
  have hk : Value.isStrOf ⟨x.toArray⟩ (dQ P q).key = (x == q.1.cps.toList) := by
   show (q.1 == (⟨x.toArray⟩ : Str)) = _
   rw [Bool.eq_iff_iff, beq_iff_eq, beq_iff_eq]
   constructor
   ·intro h; rw [h]
   ·intro h; rw [h]
  cases e : x == q.1.cps.toList with
  | true =>
   rw [List.find?_cons_of_pos (by rw [hk, e])]
   exact ⟨_, _, rfl, rfl⟩
  | false =>
   rw [List.find?_cons_of_neg (by rw [hk, e]; exact Bool.false_ne_true)]
   exact ih
theorem xm (w : World) : ew w (hz w.params) 126 tab0 := by
 refine ⟨zV w.params, _, EF _, by rw [Bi]; exact ig _, by decide, fun x => ?_⟩
 have h := mr (P := w.params) x (qs (zV w.params).toList)
 rw [EE, ← Bi] at h
 have e : ∀ es : Array DictEntry, findBy Value.isStrOf es ⟨x.toArray⟩ = (es.toList.find? fun e => Value.isStrOf ⟨x.toArray⟩ e.key).map (·.val) := fun es => by
  unfold findBy
  rw [← Array.find?_toList]
 rw [e]
 exact h
noncomputable def rW (o : Obj) : Bool := match o.data with | .cell _ => false | _ => true
theorem DS (P : Params) : (hz P).objs.toList.all rW = true := by kernel_rfl
theorem vV (P : Params) : ∀ a o, (hz P).get? a = some o → ∀ v, o.data ≠ .cell v := fun a o h v e => by
 have h1 : (hz P).objs[a]? = some o := ((Heap.get?_eq_some _ _ _).1 h).1
 have := List.all_eq_true.mp (DS P) o (Array.mem_toList_iff.mpr (Array.mem_of_getElem? h1))
 unfold rW at this
 rw [e] at this
 cases this
end
section
noncomputable def dN {α : Type} (h : Addr → Option Obj) : Nat → Sem α → Option (α × Nat)
 | t, .pure a => some (a, t)
 | t, .rule _ k => dN h t (k ())
 | t, .at _ k => dN h t (k ())
 | t, .point _ k => dN h t (k ())
 | t, .fresh k => dN h (t + 1) (k t)
 | t, .load a _ k => (h a).bind fun o => dN h t (k o)
 | _, _ => none
theorem ir {α : Type} {M : Model} {A : Around} {h : Addr → Option Obj} {E : Value → Shared → Prop} {Q : α → Shared → Prop} : ∀ (t : Sem α) (s : Shared) (a : α) (n : Nat), (∀ b o, h b = some o → s.heap.get? b = some o) → dN h s.toks t = some (a, n) → Q a { s with toks := n } → wpAny M A t Q E s := by
 intro t
 induction t with
 | pure a =>
  intro s b n hk hr hQ
  cases hr
  exact wpAny_pure hQ
 | rule tag k ih => intro s b n hk hr hQ; exact wpAny_bind (m := rule tag) (f := k) (wpAny_rule (ih () s b n hk hr hQ))
 | «at» p k ih => intro s b n hk hr hQ; exact wpAny_bind (m := standAt p) (f := k) (wpAny_standAt (ih () s b n hk hr hQ))
 | point l k ih => intro s b n hk hr hQ; exact fun Γ p hΓ => (ih () s b n hk hr hQ) Γ p hΓ
 | fresh k ih => intro s b n hk hr hQ; exact fun Γ p hΓ => (ih s.toks { s with toks := s.toks + 1 } b n hk hr hQ) Γ p hΓ
 | load a pt k ih =>
  intro s b n hk hr hQ
  revert hr; refine bE fun o h1 h2 => ?_
  exact wpAny_bind (m := loadPart a pt) (f := k) (wpAny_loadPart (hk a o h1) (ih o s b n hk h2 hQ))
 | _ => intro s b n hk hr hQ; cases hr
noncomputable def hg (P : Params) : Addr → Option Obj := (hz P).get?
end
section
noncomputable def KW (P : Params) : Frag := [(121, jE (hz P) 121), (120, jE (hz P) 120), (cStatics, jE (hz P) cStatics)]
theorem Do (P : Params) : (KW P).map (fun p => some p.2) = (KW P).map (fun p => (hz P).get? p.1) := by kernel_rfl
theorem Ea {P : Params} {h : Heap} (hk : ∀ b o, (hz P).get? b = some o → h.get? b = some o) : (KW P).In h := fun a o e => hk a o (dF e (Do P)).symm
noncomputable def attrT : List (Str × List Nat × Tok) := [(S "S", [32], 338), (S "T", [9], 339)]
theorem vi (P : Params) : readsIn (KW P) 121 (.type "type") = true := by kernel_rfl
theorem vj (P : Params) : attrT.map (fun p => PySem.W.findCls (KW P) (.ref 121) (.type "type") p.1) = attrT.map (fun p => some (.val (.str ⟨p.2.1.toArray⟩ p.2.2))) := by kernel_rfl
noncomputable def tz (a : Nat) (x : Str) : Option D := if a = 121 then (attrT.lookup x).bind fun q => if ar q.1 = true then some (.str q.1) else none else none
theorem tw (w : World) : ∀ a x d, tz a x = some d → ∃ v, (∀ μ g, Rd μ g v d) ∧ ∀ (A : Around) (E : Value → Shared → Prop) (s : Shared) (Q : Value → Shared → Prop), (∀ b o, (hz w.params).get? b = some o → s.heap.get? b = some o) → (∀ t, Q v { s with toks := t }) → wpAny (model PW w) A (getAttr (.ref a) x true) Q E s := fun a x d h => by
 unfold tz at h
 split at h
 ·rename_i ha
  subst ha
  revert h; refine bE fun q h1 h2 => ?_
  split at h2
  ·rename_i hs
   cases h2
   have hf := dF h1 (vj w.params)
   refine ⟨.str ⟨q.1.toArray⟩ q.2, fun μ g => by exact ⟨hs, _, rfl⟩, fun A E s Q hk hQ => ?_⟩
   exact cls_read (Ea hk) (vi _) hf (wpAny_pure (by
    show wpAny _ _ (handedOut _) _ _ _
    exact wpAny_pure (hQ _)))
  ·exact aW h2
 ·exact aW h
end
section
noncomputable def m9 {α : Type} : Sem α → Option α
 | .pure a => some a
 | .rule _ k => m9 (k ())
 | .at _ k => m9 (k ())
 | .point _ k => m9 (k ())
 | _ => none
theorem uM {α : Type} {M : Model} {A : Around} {E : Value → Shared → Prop} {Q : α → Shared → Prop} {s : Shared} : ∀ (t : Sem α) (a : α), m9 t = some a → Q a s → wpAny M A t Q E s := by
 intro t
 induction t with
 | pure a =>
  intro b hr hQ
  cases hr
  exact wpAny_pure hQ
 | rule tag k ih => intro b hr hQ; exact wpAny_bind (m := rule tag) (f := k) (wpAny_rule (ih () b hr hQ))
 | «at» p k ih => intro b hr hQ; exact wpAny_bind (m := standAt p) (f := k) (wpAny_standAt (ih () b hr hQ))
 | point l k ih => intro b hr hQ; exact fun Γ p hΓ => (ih () b hr hQ) Γ p hΓ
 | _ => intro b hr hQ; cases hr
noncomputable def lZ (s : List Nat) : Nat := min ((2 ^ 63 - 1 : Int)).toNat s.toArray.size
noncomputable def iF (s : List Nat) : Nat := min ((0 : Int)).toNat s.toArray.size
noncomputable def kC (code : Array Nat) (s : List Nat) : Sre.M := Sre.forSearch code s.toArray 0 (iF s) (lZ s) false
noncomputable def iU (code : Array Nat) (s : List Nat) : Bool := match m9 (Builtin.Re.reRunToEnd (kC code s)) with
 | some none => true
 | _ => false
noncomputable def gA : Array Nat := #[14, 10, 4, 1, 1, 22, 0, 31, 16, 127, 0, 13, 7, 22, 0, 31, 16, 127, 0, 1]
noncomputable def gz : Array Nat := #[14, 14, 4, 1, 1, 9, 4294966783, 0, 0, 2147483648, 0, 0, 0, 0, 0, 13, 11, 9, 4294966783, 0, 0, 2147483648, 0, 0, 0, 0, 0, 1]
theorem Bh (P : Params) (t : Nat) (s : List Nat) (u : Tok) : dN (hg P) t (Builtin.Re.reTarget "re.Pattern.search" "search" ⟨[.ref 147, .str ⟨s.toArray⟩ u], []⟩) =
  some ({ pattern := .ref 147, string := .str ⟨s.toArray⟩ u, code := gA, text := s.toArray, kind := 0, groups := 0, pos := iF s, lim := lZ s }, t) := by kernel_rfl
theorem Bg (P : Params) (t : Nat) (s : List Nat) (u : Tok) : dN (hg P) t (Builtin.Re.reTarget "re.Pattern.search" "search" ⟨[.ref 152, .str ⟨s.toArray⟩ u], []⟩) =
  some ({ pattern := .ref 152, string := .str ⟨s.toArray⟩ u, code := gz, text := s.toArray, kind := 0, groups := 0, pos := iF s, lim := lZ s }, t) := by kernel_rfl
theorem DR (P : Params) (t : Nat) (s : List Nat) (u : Tok) : dN (hg P) t (checkBuiltinCall "re.Pattern.search" ⟨[.ref 147, .str ⟨s.toArray⟩ u], []⟩) = some ((), t) := by kernel_rfl
theorem DQ (P : Params) (t : Nat) (s : List Nat) (u : Tok) : dN (hg P) t (checkBuiltinCall "re.Pattern.search" ⟨[.ref 152, .str ⟨s.toArray⟩ u], []⟩) = some ((), t) := by kernel_rfl
theorem DC (P : Params) (t : Nat) (pl : Sem Bool) : dN (hg P) t (getMethod (.ref 147) (S "search") pl) = some ((.builtin "re.Pattern.search", [.ref 147]), t) := by kernel_rfl
theorem DB (P : Params) (t : Nat) (pl : Sem Bool) : dN (hg P) t (getMethod (.ref 152) (S "search") pl) = some ((.builtin "re.Pattern.search", [.ref 152]), t) := by kernel_rfl
theorem kX : entryFor table "re.Pattern.search" = some Builtin.«re.Pattern.search» := entryFor_of_tree (by kernel_rfl)
theorem kE : plainId "re.Pattern.search" = true := by decide +kernel
theorem p6 {w : World} {A : Around} {E : Value → Shared → Prop} {st : Shared} {a : Addr} {code : Array Nat} {s : List Nat} {u : Tok} {Q : Value → Shared → Prop} (hk : ∀ b o, (hz w.params).get? b = some o → st.heap.get? b = some o)
  (tg : ∀ t, dN (hg w.params) t (Builtin.Re.reTarget "re.Pattern.search" "search" ⟨[.ref a, .str ⟨s.toArray⟩ u], []⟩) = some ({ pattern := .ref a, string := .str ⟨s.toArray⟩ u, code := code, text := s.toArray, kind := 0, groups := 0, pos := iF s, lim := lZ s }, t))
  (ck : ∀ t, dN (hg w.params) t (checkBuiltinCall "re.Pattern.search" ⟨[.ref a, .str ⟨s.toArray⟩ u], []⟩) = some ((), t)) (hn : iU code s = true) (hQ : Q .none st) :
  wpAny (model PW w) A (call (.builtin "re.Pattern.search") [.ref a, .str ⟨s.toArray⟩ u]) Q E st := by
 refine wpAny_call (codeAny_call_builtin kE kX (ir _ st () st.toks hk (ck _) ?_))
 show wpAny _ _ (Builtin.Re.reTarget "re.Pattern.search" "search" ⟨[.ref a, .str ⟨s.toArray⟩ u], []⟩ >>= fun t => Builtin.Re.reAnswer t (Sre.forSearch t.code t.text t.groups t.pos t.lim false)) _ _ st
 refine wpAny_bind (ir _ st _ st.toks hk (tg _) ?_)
 show wpAny _ _ (Builtin.Re.reRunToEnd (kC code s) >>= _) _ _ st
 have h : m9 (Builtin.Re.reRunToEnd (kC code s)) = some none := by
  revert hn
  unfold iU
  cases m9 (Builtin.Re.reRunToEnd (kC code s)) with
  | none => intro h; cases h
  | some r =>
   cases r with
   | none => intro _; rfl
   | some _ => intro h; cases h
 refine wpAny_bind (uM _ none h ?_)
 exact wpAny_pure hQ
noncomputable def xx (ds : List D) : Option (List Nat) := match ds with | [.str l] => some l | _ => none
theorem wc {ds : List D} {s : List Nat} (h : xx ds = some s) : ds = [.str s] := by
 rcases ds with _ | ⟨d, _ | ⟨e, r⟩⟩
 ·exact aW h
 ·cases d <;> cases h; rfl
 ·cases d <;> cases h
noncomputable def Er (t : Nat) (m : Str) (ds : List D) : Option D := (xx ds).bind fun s => (gd (m == S "search")).bind fun _ =>
 ((gd (t == 147 && iU gA s)).map fun _ => D.none).or ((gd (t == 152 && iU gz s)).map fun _ => D.none)
theorem D0 {s : List Nat} (h : iU gA s = true) : Er 147 (S "search") [.str s] = some .none := by
 show ((gd (iU gA s)).map fun _ => D.none).or _ = _
 rw [h]; rfl
theorem DZ {s : List Nat} (h : iU gz s = true) : Er 152 (S "search") [.str s] = some .none := by
 show ((gd (iU gz s)).map fun _ => D.none) = _
 rw [h]; rfl
theorem tt {w : World} {k t : Nat} {code : Array Nat} {s : List Nat} (gm : ∀ (u : Nat) (pl : Sem Bool), dN (hg w.params) u (getMethod (.ref t) (S "search") pl) = some ((.builtin "re.Pattern.search", [.ref t]), u))
  (tg : ∀ u t', dN (hg w.params) t' (Builtin.Re.reTarget "re.Pattern.search" "search" ⟨[.ref t, .str ⟨s.toArray⟩ u], []⟩) = some ({ pattern := .ref t, string := .str ⟨s.toArray⟩ u, code := code, text := s.toArray, kind := 0, groups := 0, pos := iF s, lim := lZ s }, t'))
  (ck : ∀ u t', dN (hg w.params) t' (checkBuiltinCall "re.Pattern.search" ⟨[.ref t, .str ⟨s.toArray⟩ u], []⟩) = some ((), t')) (hn : iU code s = true) : ∃ id, (∀ (A : Around) (E : Value → Shared → Prop) (s : Shared) (pl : Sem Bool) (Q : Value × List Value → Shared → Prop), (∀ b o, (hz w.params).get? b = some o → s.heap.get? b = some o) → Q (.builtin id, [.ref t]) s → wpAny (model PW w) A (getMethod (.ref t) (S "search") pl) Q E s) ∧
  ∀ (C : Cx) (env : Env) (g : PH) (μ : Mu) (ρ : aj) (σ : aa) (τ : List (Value × D)) (vs : List Value) (A : Around) (s' : Shared), Room k A → St (hz w.params) C env g μ ρ σ τ s' → RdAll μ g vs [.str s] → wpAny (model PW w) A (call (.builtin id) (.ref t :: vs)) (PV (hz w.params) C env ρ σ τ .none) be s' := by
 refine ⟨_, fun A E s pl Q hk hQ => ir _ s _ s.toks hk (gm _ _) hQ, fun C env g μ ρ σ τ vs A st R S hr => ?_⟩
 obtain ⟨v, rfl⟩ : ∃ v, vs = [v] := List.length_eq_one_iff.mp hr.length
 obtain ⟨⟨_, u, rfl⟩, _⟩ := hr
 exact p6 S.baseK (tg u) (ck u) hn ⟨g, μ, S.put rfl⟩
theorem DY (w : World) (k : Nat) : ∀ t m ds r, Er t m ds = some r → ∃ id, (∀ (A : Around) (E : Value → Shared → Prop) (s : Shared) (pl : Sem Bool) (Q : Value × List Value → Shared → Prop), (∀ b o, (hz w.params).get? b = some o → s.heap.get? b = some o) → Q (.builtin id, [.ref t]) s → wpAny (model PW w) A (getMethod (.ref t) m pl) Q E s) ∧
  ∀ (C : Cx) (env : Env) (g : PH) (μ : Mu) (ρ : aj) (σ : aa) (τ : List (Value × D)) (vs : List Value) (A : Around) (s : Shared), Room k A → St (hz w.params) C env g μ ρ σ τ s → RdAll μ g vs ds → wpAny (model PW w) A (call (.builtin id) (.ref t :: vs)) (PV (hz w.params) C env ρ σ τ r) be s := fun t m ds r => by
 refine bE fun s h1 => ?_
 refine bE fun _ h2 => ?_
 cases wc h1
 cases eq_of_beq (bp h2)
 refine oE (mE fun _ h3 e => ?_) (mE fun _ h3 e => ?_)
 all_goals
  cases e
  obtain ⟨ht, hn⟩ := Bool.and_eq_true_iff.mp (bp h3)
  clear h3; cases eq_of_beq ht
 ·exact tt (DC _) (fun u t => Bh _ t s u) (fun u t => DR _ t s u) hn
 ·exact tt (DB _) (fun u t => Bg _ t s u) (fun u t => DQ _ t s u) hn
end
section
structure FE where
 a : Addr
 st : Stmt
 xs : List Str
 na : Nat
 nd : Nat := 0
 kw : List Str := []
noncomputable def Hs : List (Nat × Nat) := [(24,13),(55,16),(65,28),(91,12),(102,12),(169,54),(245,27),(245,43),(246,12),(266,18),(281,61),(284,39),(295,14),(305,19),(305,23),(341,35)]
noncomputable def am (st : Stmt) : Fn := { sc := (zp st).names, mu := Hs }
noncomputable def fnN : List (Str × FE) := [(S "_strip_quoted_realnames", ⟨52, bG 3, [S "addr"], 1, 0, []⟩), (S "_check_parenthesis", ⟨59, bG 4, [S "addr"], 1, 0, []⟩), (S "ISNONTERMINAL", ⟨135, bG 59, [S "x"], 1, 0, []⟩), (S "ISEOF", ⟨142, bG 60, [S "x"], 1, 0, []⟩),
 (S "_law_page", ⟨284, bG 66, [S "script"], 1, 0, []⟩), (S "_law_text", ⟨289, bG 67, [S "page"], 1, 0, []⟩), (S "_law_places", ⟨296, bG 68, [S "text"], 1, 0, []⟩), (S "_law_cut", ⟨301, bG 69, [S "text"], 1, 0, []⟩), (S "_law_net", ⟨308, bG 70, [S "cut"], 1, 0, []⟩),
 (S "_law_send", ⟨315, bG 71, [S "net", S "current", S "book"], 3, 0, []⟩), (S "_law_joined", ⟨320, bG 72, [S "wires", S "joints"], 2, 0, []⟩), (S "_law_tried", ⟨325, bG 73, [S "wires", S "joints"], 2, 0, []⟩), (S "law", ⟨330, bG 74, [S "script"], 1, 0, []⟩)]
noncomputable def meN : List ((Nat × Str) × FE) := [((121, S "longest_run_of_spaces"), ⟨83, bC 6 2, [S "self"], 1, 0, []⟩), ((121, S "indent_level"), ⟨90, bC 6 3, [S "self", S "tabsize"], 2, 0, []⟩), ((121, S "not_equal_witness"), ⟨104, bC 6 5, [S "self", S "other"], 2, 0, []⟩),
 ((121, S "not_less_witness"), ⟨118, bC 6 7, [S "self", S "other"], 2, 0, []⟩), ((275, S "keys"), ⟨227, bC 64 9, [S "self"], 1, 0, []⟩), ((275, S "values"), ⟨232, bC 64 10, [S "self"], 1, 0, []⟩), ((275, S "setdefault"), ⟨265, bC 64 15, [S "self", S "name", S "value"], 3, 0, []⟩),
 ((275, S "get"), ⟨222, bC 64 8, [S "self", S "name", S "default"], 2, 1, []⟩), ((275, S "_convert_string_type"), ⟨174, bC 64 1, [S "self", S "value", S "name"], 2, 0, [S "name"]⟩)]
noncomputable def inN : List (Str × Nat × FE) := [(S "Whitespace", 121, ⟨76, bC 6 1, [S "self", S "ws"], 2, 0, []⟩), (S "Headers", 275, ⟨167, bC 64 0, [S "self", S "headers"], 1, 1, []⟩)]
noncomputable def feT : List FE := fnN.map (·.2) ++ meN.map (·.2) ++ inN.map (·.2.2)
theorem zn (P : Params) : feT.map (fun e => pz (hz P) e.a false) = feT.map (fun _ => true) := by kernel_rfl
theorem vA (P : Params) : feT.map (fun e => (cS (hz P) e.a).body) = feT.map (fun e => .stmts (av e.st)) := by kernel_rfl
theorem DK (P : Params) : feT.map (fun e => (cS (hz P) e.a).scope.names) = feT.map (fun e => (zp e.st).names) := by kernel_rfl
theorem nM : feT.map (fun e => e.xs.all (am e.st).canSet && e.xs.length == e.na + e.nd + e.kw.length && Nat.ble e.na 3 && Nat.ble e.kw.length 1) = feT.map (fun _ => true) := by kernel_rfl
theorem vB (P : Params) (v1 v2 v3 : Value) (b : Bool) (t : Nat) : feT.map (fun e => dN (hg P) t (bindArgs (cS (hz P) e.a) ⟨[v1, v2, v3].take e.na, e.kw.map fun x => (x, .bool b)⟩)) =
  feT.map (fun e => some (e.xs.zip ([v1, v2, v3].take e.na ++ List.replicate e.nd .none ++ e.kw.map fun _ => .bool b), t)) := by kernel_rfl
theorem DJ (P : Params) : fnN.map (fun p => (p.1 == ("__debug__" : Str), ld P p.1)) = fnN.map (fun p => (false, some (.ref p.2.a))) := by kernel_rfl
theorem Dx (P : Params) : inN.map (fun p => (p.1 == ("__debug__" : Str), ld P p.1)) = inN.map (fun p => (false, some (.ref p.2.1))) := by kernel_rfl
noncomputable def yu (c : Addr) : Addr := if c == 121 then 120 else 274
noncomputable def mN (P : Params) (c : Addr) : Str → Option Value := (hz P).nsMap (yu c)
theorem Dh (P : Params) : meN.map (fun p => mN P p.1.1 p.1.2) = meN.map (fun p => some (.ref p.2.a)) := by kernel_rfl
theorem wH (P : Params) : inN.map (fun p => mN P p.2.1 "__init__") = inN.map (fun p => some (.ref p.2.2.a)) := by kernel_rfl
theorem Da (P : Params) : [121, 275].map (fun c => (mN P c "__getattribute__", mN P c "__getattr__", mN P c "__setattr__", (hz P).isNs (yu c))) = [121, 275].map (fun c => (none, none, none, true)) := by kernel_rfl
theorem yQ : meN.map (fun p => typeLookup (.type "object") p.1.2) = meN.map (fun p => pure none) := by
 simp only [typeLookup_type, builtinLookup_eq_fast]
 kernel_rfl
noncomputable def fldN : List ((Nat × Str) × Unit) := [((121, S "raw"), ()), ((121, S "n"), ()), ((121, S "nt"), ()), ((121, S "norm"), ()), ((121, S "is_simple"), ()), ((275, S "_headers"), ())]
theorem pA : fldN.map (fun p => typeLookup (.type "object") p.1.2) = fldN.map (fun p => pure none) := by
 simp only [typeLookup_type, builtinLookup_eq_fast]
 kernel_rfl
theorem sY (P : Params) : fldN.map (fun p => mN P p.1.1 p.1.2) = fldN.map (fun p => none) := by kernel_rfl
theorem zz (P : Params) : (hz P).get? 121 = some (excClassObj (S "Whitespace") (S "Whitespace") 121 120 [.type "object"] [.type "object"] true [] [] false none none none none (some (.str (S "Whitespace") 325)) (some (.str (S "Whitespace") 333)) (some (.bool true)) "object.__new__") := by kernel_rfl
theorem zy (P : Params) : (hz P).get? 275 = some (excClassObj (S "Headers") (S "Headers") 275 274 [.type "object"] [.type "object"] true [] [] false none none none none (some (.str (S "Headers") 704)) (some (.str (S "Headers") 712)) (some (.bool true)) "object.__new__") := by kernel_rfl
end
section
theorem mem_map {α β : Type} {l : List α} {a : α} (h : a ∈ l) {f g : α → β} (e : l.map f = l.map g) : f a = g a := List.map_inj_left.mp e _ h
theorem aG {α β : Type} [BEq α] [LawfulBEq α] : ∀ {l : List (α × β)} {x : α} {b : β}, l.lookup x = some b → (x, b) ∈ l
 | (y, c) :: l, x, b, h => by
  rw [List.lookup_cons] at h
  cases hx : x == y with
  | true =>
   rw [hx] at h
   refine ox_ h ?_
   rw [eq_of_beq hx]; exact List.mem_cons_self ..
  | false =>
   rw [hx] at h
   exact List.mem_cons_of_mem _ (aG h)
theorem RdAll.nones {μ : Mu} {g : PH} : ∀ n : Nat, RdAll μ g (List.replicate n .none) (List.replicate n .none)
 | 0 => trivial
 | n + 1 => by
  exact ⟨rfl, RdAll.nones n⟩
theorem CallJ.mono {w : World} {h₀ : Heap} {k k' : Nat} {a : Addr} {ds : List D} {kws : List (Str × D)} {σ σ' : aa} {r : D} (h : CallJ w h₀ k a ds kws σ r σ') (hk : k ≤ k') : CallJ w h₀ k' a ds kws σ r σ' :=
 fun C env g μ ρ τ vs A s R S hr => h C env g μ ρ τ vs A s (R.le hk) S hr
theorem GenJ.mono {w : World} {h₀ : Heap} {k k' : Nat} {a : Addr} {ds l : List D} (h : GenJ w h₀ k a ds l) (hk : k ≤ k') : GenJ w h₀ k' a ds l :=
 fun C env g μ ρ σ τ vs A s R S hr => h C env g μ ρ σ τ vs A s (R.le hk) S hr
noncomputable def nv : List Str → List (Str × D) → Bool
 | [], [] => true
 | [x], [(y, .bool _)] => x == y
 | _, _ => false
noncomputable def jQ (r : Fl × aj × aa) : Option (D × aa) := match r.1 with | .ret d => some (d, r.2.2) | .next => some (.none, r.2.2) | _ => none
theorem nb {q : Fl × aj × aa} {r : D} {σ' : aa} (h : jQ q = some (r, σ')) : q.2.2 = σ' ∧ (q.1 = .ret r ∨ (q.1 = .next ∧ r = .none)) := by
 obtain ⟨fl, ρ, σ⟩ := q
 cases fl <;> cases h
 ·exact ⟨rfl, .inr ⟨rfl, rfl⟩⟩
 ·exact ⟨rfl, .inl rfl⟩
theorem wD : ∀ {ks : List Str} {kws : List (Str × D)}, nv ks kws = true → (ks = [] ∧ kws = []) ∨ ∃ x b, ks = [x] ∧ kws = [(x, .bool b)]
 | [], [], _ => .inl ⟨rfl, rfl⟩
 | [], _ :: _, h => eY h
 | [_], [], h => eY h
 | [x], [(y, d)], h => by
  cases d <;> first | exact eY h | skip
  rename_i b
  have h : (x == y) = true := h
  exact .inr ⟨x, b, rfl, by rw [eq_of_beq h]⟩
 | [_], (_, d) :: _ :: _, h => by cases d <;> cases h
 | _ :: _ :: _, _, h => eY h
noncomputable def fU (o : aO) (e : FE) (ds : List D) (kws : List (Str × D)) (σ : aa) : Option (D × aa) :=
 (gd (ds.length == e.na && nv e.kw kws)).bind fun _ => ((ba (ex o (am e.st) 2000 100) (av e.st) (aS [] (e.xs.zip (ds ++ List.replicate e.nd .none ++ kws.map (·.2)))) σ).run).bind jQ
theorem iE {w : World} {e : FE} (he : e ∈ feT) {ds : List D} {kws : List (Str × D)} (hl : ds.length = e.na) (hkw : nv e.kw kws = true) : hH w (hz w.params) (cS (hz w.params) e.a) ds kws e.xs (ds ++ List.replicate e.nd .none ++ kws.map (·.2)) := by
 have h1 := mem_map he nM
 simp only [Bool.and_eq_true, beq_iff_eq, Nat.ble_eq] at h1
 obtain ⟨⟨⟨_, hx⟩, hn⟩, _⟩ := h1
 intro C env g μ ρ σ τ vs A s Q S hr hQ
 have hvl := hr.length
 obtain ⟨v1, v2, v3, hvs⟩ : ∃ v1 v2 v3, vs = [v1, v2, v3].take e.na := by
  rw [hl] at hvl
  clear hr; rw [← hvl]
  rw [← hvl] at hn
  clear hvl
  cases vs with
  | nil => exact ⟨.none, .none, .none, rfl⟩
  | cons a vs =>
  cases vs with
  | nil => exact ⟨a, .none, .none, rfl⟩
  | cons b vs =>
  cases vs with
  | nil => exact ⟨a, b, .none, rfl⟩
  | cons c vs =>
  cases vs with
  | nil => exact ⟨a, b, c, rfl⟩
  | cons d vs => simp at hn
 obtain ⟨b, hb1, hb2, hb3⟩ : ∃ b, kws.map Dp = e.kw.map (fun x => (x, .bool b)) ∧ RdAll μ g (e.kw.map fun _ => .bool b) (kws.map (·.2)) ∧ kws.length = e.kw.length := by
  generalize e.kw = kw at hkw
  clear hQ; obtain ⟨rfl, rfl⟩ | ⟨x, b, rfl, rfl⟩ := wD hkw
  ·exact ⟨true, rfl, trivial, rfl⟩
  ·exact ⟨b, rfl, ⟨rfl, trivial⟩, rfl⟩
 have hrun := mem_map he (vB w.params v1 v2 v3 b s.toks)
 rw [← hvs] at hrun
 rw [hb1]
 have hlen : e.xs.length = (vs ++ List.replicate e.nd Value.none ++ e.kw.map fun _ => Value.bool b).length := by
  simp only [List.length_append, List.length_replicate, List.length_map, hvl, hl, hx]
 refine ir _ s _ s.toks S.baseK hrun (hQ _ ?_ ?_)
 ·rw [List.map_fst_zip]; exact Nat.le_of_eq hlen
 ·rw [List.map_snd_zip (Nat.le_of_eq hlen.symm)]
  exact (hr.append (.nones _)).append hb2
theorem dK {w : World} {e : FE} (he : e ∈ feT) : FnObj (hz w.params) e.a (cS (hz w.params) e.a) (av e.st) (am e.st) :=
 .of (mem_map he (zn w.params)) (mem_map he (vA w.params)) (mem_map he (DK w.params)).symm rfl
theorem mD {w : World} {k : Nat} {o : aO} (HO : cF w (hz w.params) (np w) (nr w) k o) {e : FE} (he : e ∈ feT) {ds : List D} {kws : List (Str × D)} {σ σ' : aa} {r : D} (h : fU o e ds kws σ = some (r, σ')) : CallJ w (hz w.params) (k + 1) e.a ds kws σ r σ' := by
 revert h; refine bE fun _ h1 h2 => ?_
 have h1 := bp h1
 simp only [Bool.and_eq_true, beq_iff_eq] at h1
 revert h2; refine bE fun q h3 h4 => ?_
 obtain ⟨fl, ρ', σ₁⟩ := q
 have hset := mem_map he nM
 simp only [Bool.and_eq_true, beq_iff_eq, Nat.ble_eq] at hset
 have hc : ∀ x ∈ e.xs, (am e.st).canSet x = true := fun x hx => List.all_eq_true.mp hset.1.1.1 x hx
 obtain ⟨rfl, hq⟩ := nb h4
 exact vW HO (dK he) (iE he h1.1 h1.2) hc h3 hq
theorem eU (i : Int) : iv (.int i) = true := rfl
theorem eO (s : List Nat) : iv (.str s) = true := rfl
theorem fC (b : Bool) : iv (.bool b) = true := rfl
theorem eN (l : List D) : iv (.tup l) = dO l := rfl
theorem eT (l : List D) : iv (.lst l) = dO l := rfl
theorem eQ (c : Nat) (fs : List (Str × D)) : iv (.obj c fs) = qQ fs := rfl
theorem Fd (i : Nat) : iv (.ptr i) = false := rfl
theorem lN : dO [] = true := rfl
theorem lM (d : D) (l : List D) : dO (d :: l) = (iv d && dO l) := rfl
theorem Eg : qQ [] = true := rfl
theorem Ef (x : Str) (d : D) (l : List (Str × D)) : qQ ((x, d) :: l) = (iv d && qQ l) := rfl
theorem Bu (l : List D) : aV (.lst l) = none := rfl
theorem lO (x : D) : nk [x] = some x := rfl
theorem cK : ∀ {a b : List D}, dO a = true → dO b = true → dO (a ++ b) = true
 | [], _, _, h => h
 | d :: r, b, h, h' => by
  have h := Bool.and_eq_true_iff.mp h
  refine Bool.and_eq_true_iff.mpr ?_
  exact ⟨h.1, cK h.2 h'⟩
theorem gX : ∀ n : Nat, dO (List.replicate n .none) = true
 | 0 => rfl
 | n + 1 => by
  rw [List.replicate_succ]
  exact gX n
theorem uX {ks : List Str} {kws : List (Str × D)} (h : nv ks kws = true) : dO (kws.map (·.2)) = true := by
 obtain ⟨rfl, rfl⟩ | ⟨x, b, rfl, rfl⟩ := wD h <;> rfl
noncomputable def xH (o : aO) (e : FE) (ds : List D) (kws : List (Str × D)) : Option D := (gd (dO ds)).bind fun _ => (fU o e ds kws []).bind fun r => (gd (iv r.1)).map fun _ => r.1
noncomputable def kA (o : aO) (e : FE) (ds : List D) (kws : List (Str × D)) (σ : aa) : Option (D × aa) := ((xH o e ds kws).map fun r => (r, σ)).or (fU o e ds kws σ)
theorem wN {e : FE} (he : e ∈ feT) : ∀ x ∈ e.xs, (am e.st).canSet x = true := by
 have hset := mem_map he nM
 simp only [Bool.and_eq_true, beq_iff_eq, Nat.ble_eq] at hset
 exact fun x hx => List.all_eq_true.mp hset.1.1.1 x hx
theorem pG {w : World} {k : Nat} {o : aO} (HO : cF w (hz w.params) (np w) (nr w) k o) {e : FE} (he : e ∈ feT) {ds : List D} {kws : List (Str × D)} {σ σ' : aa} {r : D} (h : kA o e ds kws σ = some (r, σ')) : CallJ w (hz w.params) (k + 1) e.a ds kws σ r σ' := by
 revert h; refine oE (fun h => ?_) fun h => mD HO he h
 revert h; refine mE fun r' h1 h2 => ?_
 refine p2 h2 ?_
 revert h1; refine bE fun _ h2 h3 => ?_
 have hp := bp h2
 revert h3; refine bP fun r2 σ₂ h4 => ?_
 refine mE fun _ h6 h7 => ?_
 cases h7
 have hp2 := bp h6
 revert h4; refine bE fun _ h7 h8 => ?_
 have h7 := bp h7
 simp only [Bool.and_eq_true, beq_iff_eq] at h7
 revert h8; refine bE fun q h9 h10 => ?_
 obtain ⟨h11, h12⟩ := nb h10
 clear h10 h11; obtain ⟨fl, ρ', σ₃⟩ := q
 have h13 := mC (σ := σ) (k := k) HO (dK he) (iE he h7.1 h7.2) (wN he) σ.length (E := [])
  (fun μ g vs hv => hv.pf (cK (cK hp (gX _)) (uX h7.2))) (fun so hso => by rw [List.drop_length] at hso; cases hso) (by rw [List.drop_length]) (fun j so hj => by simp at hj)
  (by rw [List.drop_length]; exact h9) (h12.imp (fun h => ⟨h, hp2⟩) fun h => h)
 rw [List.take_length, List.append_nil] at h13
 exact h13
noncomputable def li (c : Nat) (so : SO) : Option (List (Str × D)) := match so with | .inst c' fs => if (c' == c) = true then some fs else none | _ => none
noncomputable def lh (d : D) : Option Unit := match d with | .none => some () | _ => none
noncomputable def qd (o : aO) (c : Nat) (e : FE) (ds : List D) : Option (List (Str × D)) := (gd (dO ds)).bind fun _ => (fU o e (.ptr 0 :: ds) [] [.inst c []]).bind fun r => (lh r.1).bind fun _ => (r.2[0]?).bind fun so => (li c so).bind fun fs => (gd (qQ fs)).map fun _ => fs
theorem pL {c : Nat} {so : SO} {fs : List (Str × D)} (h9 : li c so = some fs) : so = .inst c fs := by
 cases so <;> first | (cases h9; done) | skip
 obtain ⟨hc, h9⟩ := Option.ite_none_right_eq_some.mp h9
 refine ox_ h9 ?_
 rw [eq_of_beq hc]
theorem pK {d : D} {u : Unit} (h : lh d = some u) : d = .none := by cases d <;> first | rfl | cases h
theorem yH {w : World} {k : Nat} {o : aO} (HO : cF w (hz w.params) (np w) (nr w) k o) {e : FE} (he : e ∈ feT) {c : Nat} {ds : List D} {σ : aa} {fs : List (Str × D)} (h : qd o c e ds = some fs) : CallJ w (hz w.params) (k + 1) e.a (.ptr σ.length :: ds) [] (σ ++ [.inst c []]) .none (σ ++ [.inst c fs]) := by
 revert h; refine bE fun _ h1 h2 => ?_
 have hp := bp h1
 revert h2; refine bP fun r σ' h3 => ?_
 refine bE fun _ h5 => ?_
 refine bE fun so h7 => ?_
 refine bE fun fs' h9 => ?_
 refine mE fun _ h11 h12 => ?_
 cases h12
 have hp2 := bp h11
 have e1 : r = .none := pK h5
 have e2 := pL h9
 revert h3; refine bE fun _ h13 h14 => ?_
 have h13 := bp h13
 simp only [Bool.and_eq_true, beq_iff_eq] at h13
 revert h14; refine bE fun q h15 h16 => ?_
 obtain ⟨h17, h18⟩ := nb h16
 clear h16; obtain ⟨fl, ρ', σ₃⟩ := q
 have h17 : σ₃ = σ' := h17
 subst h17
 have ed : (σ ++ [SO.inst c []]).drop σ.length = [.inst c []] := by rw [List.drop_append, List.drop_length, Nat.sub_self]; rfl
 have h19 := mC (σ := σ ++ [.inst c []]) (k := k) (r := r) (kws := []) (ds := .ptr σ.length :: ds) (es := .ptr σ.length :: ds ++ List.replicate e.nd .none ++ ([] : List (Str × D)).map (·.2)) (es₂ := .ptr 0 :: ds ++ List.replicate e.nd .none ++ ([] : List (Str × D)).map (·.2)) HO (dK he) (iE he (by rw [← h13.1]; rfl) h13.2) (wN he) σ.length (E := [.inst c fs])
  (fun μ g vs hv => by
   cases vs with
   | nil => cases hv
   | cons v vs =>
    refine ⟨?_, hv.2.pf (cK (cK hp (gX _)) rfl)⟩
    have hv1 := hv.1
    obtain ⟨a, m, x1, x2⟩ := hv1
    exact ⟨a, m, by rw [List.getElem?_drop]; exact x1, x2⟩) (fun so hso => by rw [ed] at hso; exact ⟨c, List.mem_singleton.mp hso⟩) (by rw [ed]; rfl) (fun j so hj => by
   cases j with
   | succ j => simp at hj
   | zero =>
    refine ox_ hj ?_
    exact ⟨by rw [h7, e2], c, fs, rfl, hp2, c, by rw [ed]; rfl⟩)
  (by rw [ed]; exact h15) (h18.imp (fun h => ⟨h, by rw [e1]; rfl⟩) fun h => h)
 rw [List.take_left, e1] at h19
 exact h19
end
section
noncomputable def oB : aO where
 glob := fun x => globT.lookup x
 fn := fun _ _ _ => none
 gen := fun _ _ => none
 isGen := fun x => x == S "_iter_escaped_chars"
 meth := fun _ _ _ _ _ => none
 bmeth := Er
 new := fun _ _ _ => none
 attr := tz
 fld := fun c x => (fldN.lookup (c, x)).isSome
 tab := fun t => (gd (t == 126)).map fun _ => tab0
noncomputable def Dd (o : aO) (c : Nat) (e : FE) (ds : List D) (σ : aa) : Option (D × aa) :=
 (fU o e (.ptr σ.length :: ds) [] (σ ++ [.inst c []])).bind fun r => (lh r.1).bind fun _ => (r.2[σ.length]?).bind fun so => (li c so).map fun fs => (.obj c fs, r.2.set σ.length .dead)
noncomputable def F3 (o : aO) (c : Nat) (e : FE) (ds : List D) (σ : aa) : Option (D × aa) := ((qd o c e ds).map fun fs => (.obj c fs, σ ++ [.dead])).or (Dd o c e ds σ)
noncomputable def oS (o : aO) : aO := { oB with
 fn := fun x ds σ => (fnN.lookup x).bind fun e => kA o e ds [] σ
 gen := fun x ds => (gd (x == S "_iter_escaped_chars")).bind fun _ => (xx ds).map fun l => bm 0 false l
 meth := fun c m ds kws σ => (meN.lookup (c, m)).bind fun e => kA o e ds kws σ
 new := fun x ds σ => (inN.lookup x).bind fun q => F3 o q.1 q.2 ds σ }
noncomputable def O : Nat → aO
 | 0 => oB
 | n + 1 => oS (O n)
theorem yR : meN.map (fun p => p.1.1 == 121 || p.1.1 == 275) = meN.map (fun _ => true) := by kernel_rfl
theorem ze : inN.map (fun p => p.2.1 == 121 || p.2.1 == 275) = inN.map (fun _ => true) := by kernel_rfl
theorem pB : fldN.map (fun p => p.1.1 == 121 || p.1.1 == 275) = fldN.map (fun _ => true) := by kernel_rfl
theorem um {c : Nat} (h : (c == 121 || c == 275) = true) : c ∈ [121, 275] := by
 rcases Bool.or_eq_true_iff.mp h with h | h <;> rw [eq_of_beq h] <;> decide
structure GD (P : Params) (c : Addr) : Prop where
 at_ : ClsAt (hz P) c (yu c) (mN P c)
 ga : mN P c "__getattribute__" = none
 gh : mN P c "__getattr__" = none
 sa : mN P c "__setattr__" = none
theorem pE {P : Params} {c : Addr} (hc : c ∈ [121, 275]) : GD P c := by
 have h := mem_map hc (Da P)
 obtain ⟨h1, h⟩ := Prod.mk.inj h
 obtain ⟨h2, h⟩ := Prod.mk.inj h
 obtain ⟨h3, h4⟩ := Prod.mk.inj h
 refine ⟨⟨?_, .of_isNs h4⟩, h1, h2, h3⟩
 clear h1 h2 h h3 h4; rcases List.mem_cons.mp hc with rfl | hc
 ·exact ⟨_, _, _, _, _, _, _, _, _, _, _, _, zz P⟩
 ·rw [List.mem_singleton.mp hc]
  exact ⟨_, _, _, _, _, _, _, _, _, _, _, _, zy P⟩
theorem sT {x : Str} {e : FE} (h : fnN.lookup x = some e) : e ∈ feT := List.mem_append_left _ (List.mem_append_left _ (List.mem_map.mpr ⟨_, aG h, rfl⟩))
theorem sd {x : Nat × Str} {e : FE} (h : meN.lookup x = some e) : e ∈ feT := List.mem_append_left _ (List.mem_append_right _ (List.mem_map.mpr ⟨_, aG h, rfl⟩))
theorem pk {x : Str} {e : Nat × FE} (h : inN.lookup x = some e) : e.2 ∈ feT := List.mem_append_right _ (List.mem_map.mpr ⟨_, aG h, rfl⟩)
theorem sr {w : World} {x : Str} {v : Value} (h : (x == ("__debug__" : Str), ld w.params x) = (false, some v)) : LoadB (np w) (nr w) x v := .of (Prod.mk.inj h).1 (Prod.mk.inj h).2
theorem vw (w : World) : ∀ c x, (fldN.lookup (c, x)).isSome = true → ∀ (A : Around) (E : Value → Shared → Prop) (s : Shared) (a dd : Addr) (mm : Str → Option Value) (v : Value) (Q : Value → Shared → Prop), (∀ b o, (hz w.params).get? b = some o → s.heap.get? b = some o) → GI s.heap.get? a c dd → s.heap.Ns1 dd mm → mm x = some v → handedOut v = pure v →
  (∀ t, Q v { s with toks := t }) → wpAny (model PW w) A (getAttr (.ref a) x true) Q E s := fun c x h A E s a dd mm v Q hk G hn hv hh hQ => by
 obtain ⟨u, hu⟩ := Option.isSome_iff_exists.mp h
 have X := pE (P := w.params) (um (mem_map (aG hu) pB))
 exact mh X.at_ X.ga (mem_map (aG hu) (sY w.params)) (mem_map (aG hu) pA) hk G hn hv hh hQ
theorem vt (w : World) : ∀ c x, (fldN.lookup (c, x)).isSome = true → ∀ (A : Around) (E : Value → Shared → Prop) (s : Shared) (a dd : Addr) (mm : Str → Option Value) (v : Value) (ns : List Str) (Q : Unit → Shared → Prop), (∀ b o, (hz w.params).get? b = some o → s.heap.get? b = some o) → GI s.heap.get? a c dd → s.heap.Ns1 dd mm → Within mm ns → ns.length ≤ 1000 →
  (∀ h' t, h'.Ns1 dd (fun y => if y = x then some v else mm y) → Heap.ExtBut dd s.heap h' → Q () { s with heap := h', toks := t }) → wpAny (model PW w) A (setAttr (.ref a) x v) Q E s := fun c x h A E s a dd mm v ns Q hk G hn hw hl hQ => by
 obtain ⟨u, hu⟩ := Option.isSome_iff_exists.mp h
 have X := pE (P := w.params) (um (mem_map (aG hu) pB))
 exact lH X.at_ X.sa (mem_map (aG hu) (sY w.params)) (mem_map (aG hu) pA) hk G hn hw hl hQ
theorem wq (w : World) (k : Nat) : cF w (hz w.params) (np w) (nr w) k oB where
 bs := GW w
 tab := fun t r h => by
  revert h; refine mE fun _ h1 h2 => ?_
  rw [eq_of_beq (bp h1), ← h2]
  exact xm w
 glob := vp w
 blt := zG w
 lst := yS w
 rng := xI w
 fn := fun x ds σ r σ' h => aW h
 new := fun x ds σ r σ' h => aW h
 meth := fun c m ds kws σ r σ' h => aW h
 bmeth := DY w k
 attr := tw w
 fldG := vw w
 fldS := vt w
 gen := fun x ds l h => aW h
theorem DE {w : World} : FnObj (hz w.params) 45 (cS (hz w.params) 45) eh fG true := .of (t1 _) (t2 _) (t3 _) rfl
theorem vh (P : Params) : (S "_iter_escaped_chars" == ("__debug__" : Str), ld P (S "_iter_escaped_chars")) = (false, some (.ref 45)) := by kernel_rfl
theorem BR {w : World} {k : Nat} {o : aO} (HO : cF w (hz w.params) (np w) (nr w) k o) : cF w (hz w.params) (np w) (nr w) (k + 2) (oS o) := { wq w (k + 2) with
 fn := fun x ds σ r σ' h => by
  revert h; refine bE fun e h1 h2 => ?_
  exact ⟨e.a, sr (mem_map (aG h1) (DJ w.params)), jd (dK (sT h1)), (pG HO (sT h1) h2).mono (Nat.le_succ _)⟩
 new := fun x ds σ r σ' h => by
  revert h; refine bE fun q h1 h2 => ?_
  obtain ⟨c, e⟩ := q
  have X := pE (P := w.params) (um (mem_map (aG h1) ze))
  refine ⟨c, sr (mem_map (aG h1) (Dx w.params)), qj X.at_, ?_⟩
  revert h2; refine oE (fun h2 => ?_) fun h2 => ?_
  ·revert h2; refine mE fun fs h3 h4 => ?_
   refine p2 h4 ?_
   have hJ := yH HO (pk h1) h3 (σ := σ)
   have h5 := rY X.at_ (dK (pk h1)) (mem_map (aG h1) (wH w.params)) hJ (fs := fs) (by rw [List.getElem?_concat_length])
   rw [List.set_append_right _ _ (Nat.le_refl _), Nat.sub_self] at h5
   exact h5
  ·revert h2; refine bE fun p h3 h4 => ?_
   obtain ⟨d, σ₁⟩ := p
   revert h4; refine bE fun _ h5 => ?_
   refine bE fun so h7 => ?_
   refine mE fun fs h9 h10 => ?_
   refine p2 h10 ?_
   have hd : d = .none := pK h5
   clear h5; subst hd
   have hso := pL h9
   clear h9; subst hso
   exact rY X.at_ (dK (pk h1)) (mem_map (aG h1) (wH w.params)) (mD HO (pk h1) h3) h7
 meth := fun c m ds kws σ r σ' h => by
  revert h; refine bE fun e h1 h2 => ?_
  have X := pE (P := w.params) (um (mem_map (aG h1) yR))
  exact ⟨e.a, jd (dK (sd h1)), (pG HO (sd h1) h2).mono (Nat.le_succ _), fun A E s x dd mm pl Q hk G hn hm hQ => jG X.at_ (dK (sd h1)) (mem_map (aG h1) (Dh w.params)) X.ga X.gh (mem_map (aG h1) yQ) hk G hn hm hQ⟩
 gen := fun x ds l h => by
  revert h; refine bE fun _ h1 => ?_
  refine mE fun s h3 h4 => ?_
  have hx := eq_of_beq (bp h1)
  refine q2_ hx ?_
  subst h4
  cases wc h3
  exact ⟨45, sr (vh _), jd DE, (zi HO (zu w) (vV _) DE (D2 (t4 _))).mono (Nat.le_succ _)⟩ }
theorem D6 (w : World) : ∀ n, cF w (hz w.params) (np w) (nr w) (2 * n) (O n)
 | 0 => wq w 0
 | n + 1 => BR (D6 w n)
end
section
theorem zh {P : Params} {b : Addr} {o : Obj} (h : (hz P).get? b = some o) : (kQ P).get? b = some o := by
 by_cases hb : b = 6
 ·subst hb
  rw [wK] at h
  exact aW h
 ·have e : (hz P).objs[b]? = (kQ P).objs[b]? := by
   show ((kQ P).objs.setIfInBounds 6 GN)[b]? = _
   rw [Array.getElem?_setIfInBounds_ne (Ne.symm hb)]
  unfold Heap.get? at h ⊢
  rw [e] at h
  exact h
theorem YP.hz {w : World} {h : Heap} (Y : YP w h) : ∀ b o, (hz w.params).get? b = some o → h.get? b = some o := fun b o e => Y b o (zh e)
theorem qL {h : Heap} {a : Addr} {m m' : Str → Option Value} (h1 : h.Ns a m) (h2 : h.Ns a m') (x : Str) : m x = m' x := by
 obtain ⟨o, es, ep, a1, a2, _, a3⟩ := h1
 obtain ⟨o', es', ep', b1, b2, _, b3⟩ := h2
 rw [a1] at b1
 cases b1
 rw [a2] at b2
 cases b2
 rw [← a3, ← b3]
noncomputable def up (g : PH) (s : Shared) : Cx := ⟨fun b => if b = 6 then none else s.heap.get? b, g, [], s.os, s.gens, fun _ => False⟩
noncomputable def topE : Env := { (default : Env) with locals := 6, cells := [], func := none }
theorem EA {g : PH} {s : Shared} : (up g s).Φ topE.locals = none := by
 show (if (6 : Addr) = 6 then (none : Option Obj) else s.heap.get? 6) = none
 exact if_pos rfl
theorem xl {w : World} {s : Shared} {g : PH} (Y : YP w s.heap) (hg : ∀ a o, g a = some o → s.heap.get? a = some o) (h6 : g 6 = none) (hb : AllBare s.gens) : St (hz w.params) (up g s) topE g [] [] [] [] s where
 base := fun a o h => by
  show (if a = 6 then none else s.heap.get? a) = some o
  rw [if_neg (by rintro rfl; rw [wK] at h; cases h)]
  exact Y.hz a o h
 phi := fun a o h => by
  have h : (if a = 6 then none else s.heap.get? a) = some o := h
  split at h
  ·exact aW h
  ·exact h
 imm := hg
 grow := fun a o h => .inl h
 ext := fun a o h => h
 pre := List.prefix_refl _
 len := rfl
 dist := fun i j so so' a m a' m' h => by simp at h
 sto := fun i so h => by simp at h
 ownΦ := EA
 owng := h6
 loc := ⟨_, (Heap.Ns.of_isNs (y9 w.params)).keeps Y, fun x d hx => by simp at hx⟩
 cel := fun x d hx => by simp at hx
 celW := fun x h => eY h
 celD := fun x y c hx => aW hx
 tmp := fun p hp => by cases hp
 bare := hb
 gens := fun i x h => h
 os := rfl
theorem tj {w : World} {k M n : Nat} {o : aO} {mg mb : Str → Option Value} {fd : FuncData} {fa : Addr} {f : Fn} {body : List Stmt} {ds es : List D} {xs : List Str} {A : Around} {s : Shared} {g : PH} {vs : List Value} {ρ' : aj} {σ' : aa}
  (HO : cF w (hz w.params) mg mb k o) (FO : FnObj (hz w.params) fa fd body f) (hb : hH w (hz w.params) fd ds [] xs es) (hc : ∀ x ∈ xs, f.canSet x = true) (h : (ba (ex o f M n) body (aS [] (xs.zip es)) []).run = some (.ret (.bool true), ρ', σ'))
  (R : Room (k + 1) A) (S : St (hz w.params) (up g s) topE g [] [] [] [] s) (hvs : RdAll [] g vs ds) :
  wpAny (model PW w) A (call (.ref fa) vs []) (fun v s' => v = .bool true ∧ (∀ b o, s.heap.get? b = some o → s'.heap.get? b = some o) ∧ s'.os = s.os ∧ AllBare s'.gens) be s := by
 obtain ⟨ob, ho, hd, _⟩ := FO.obj
 refine wpAny_call ?_
 refine codeAny_call_function (by have := R.dp; lia) (S.baseK _ _ ho) hd FO.co FO.gen FO.body (FO.code.keeps S.baseK) ?_
 refine wpAny_mono (hb _ _ g [] [] [] [] vs A.in1 s _ S hvs fun binds h1 h2 => ?_) (fun _ _ h => h) fun _ _ x => x.elim
 refine wpAny_mono (gu 0 (.inl ⟨rfl, rfl⟩) FO S (binds := binds) (ds := es) (fun x hx => hc _ (h1 ▸ List.mem_map.mpr ⟨x, hx, rfl⟩)) h2 (Q := fun env' s₂ => s₂.heap.NoLimit ∧ codeAny (model PW w) A (.func body env') _ s₂) fun env' s₁ s' ow O _ hk hos hL _ _ V hbase S' => ?_) (fun _ _ h => h) fun _ _ x => x.elim
 refine ⟨HO.bs.nolimit.keeps hbase, codeAny_func ?_⟩
 rw [h1] at S'
 refine wpAny_mono (ee (mv HO M n) V FO.own R.deeper body h S') (fun fw s'' hp => ?_) fun _ _ x => x.elim
 obtain ⟨v, rfl, g'', μ'', S''⟩ := hp
 have hv := S''.tmp _ (List.mem_cons_self ..)
 refine ⟨hv, fun b o e => ?_, S''.os, S''.bare⟩
 refine S''.phi b o (Cx.all_some (fun hm => ?_) (fun hl => ?_) (hk b o e))
 ·have e1 := O.Φ b hm
  have e1 : (if b = 6 then none else s.heap.get? b) = none := e1
  split at e1
  ·rename_i h6
   clear e; subst h6
   exact O.loc hm
  ·rw [e] at e1; cases e1
 ·obtain ⟨i, so, x, h1, _⟩ := hl
  simp at h1
end
section
theorem j6 {R : WRecords} : ∀ {xs : List WData}, WShape.hasItems R xs .int = true → ∃ l : List Int, xs = l.map .int
 | [], _ => ⟨[], rfl⟩
 | x :: xs, h => by
  have h := Bool.and_eq_true_iff.mp h
  obtain ⟨l, hl⟩ := j6 h.2
  have h1 := h.1
  cases x <;> first | exact eY h1 | skip
  rename_i i _
  exact ⟨i :: l, by rw [hl]; rfl⟩
theorem rQ {args : List WData} (h : rO.toRowW.claim.pre args = true) : ∃ l : List Int, args = [.list (l.map .int)] ∧ l.length ≤ 63 := by
 have h : (WShape.hasAll [] args [.list .int] && (OpenLaw.pre PySem.Challenge.rw_sh0075_01).holds [] { args := args }) = true := h
 obtain ⟨h1, h2⟩ := Bool.and_eq_true_iff.mp h
 match args, h1, h2 with
 | [], h1, _ => exact eY h1
 | [d], h1, h2 =>
  clear h
  have h1 : (WShape.has [] d (.list .int) && true) = true := h1
  rw [Bool.and_true] at h1
  cases d <;> first | exact eY h1 | skip
  rename_i xs _ _
  have h1 : (WShape.hasItems [] xs .int || false) = true := h1
  rw [Bool.or_false] at h1
  obtain ⟨l, rfl⟩ := j6 h1
  refine ⟨l, rfl, ?_⟩
  have e : (OpenLaw.pre PySem.Challenge.rw_sh0075_01) = .and (.not (.lt (.lit (.int 63)) (.len (.arg 0)))) (.lit (.bool true)) := rfl
  rw [e] at h2
  simp [WTm.holds, WTm.value] at h2
  rw [show less? (WData.int 63) (WData.int (l.length : Int)) = some (decide ((63 : Int) < l.length)) from by first | rfl | simp [less?]] at h2
  by_cases hl : (63 : Int) < l.length
  ·rw [decide_eq_true hl] at h2
   simp at h2
  ·omega
 | _ :: _ :: _, h1, _ => cases (Bool.and_eq_true_iff.mp h1).2
theorem oh {P : Params} {h : Heap} {μ : Mu} {g : PH} : ∀ {l : List Int} {vs : List Value}, WellAll P h vs (l.map .int) → RdAll μ g vs (l.map .int)
 | [], vs, hr => by cases hr; trivial
 | i :: l, vs, hr => by
  cases hr with
  | cons h1 h2 =>
   cases h1 with
   | int i t =>
    exact ⟨⟨t, rfl⟩, oh h2⟩
theorem EB (P : Params) : (kQ P).get? 6 = some ⟨.type "dict", none, .dict #[] 0, #[]⟩ := by kernel_rfl
theorem EP : [S "script"].all (am (bG 74)).canSet = true := by kernel_rfl
theorem BE (l : List Int) : rO.toRowW.claim.post [.list (l.map .int)] (.bool true) [.list (l.map .int)] = true := by
 show (WShape.has [] (.bool true) .bool && WTm.holds [] (.eq .res (.lit (.bool true))) _) = true
 simp only [WTm.holds, WTm.value]
 rw [show same (WData.bool true) (WData.bool true) = true from by first | rfl | decide +kernel | simp [same]]
 rfl
theorem uj (plain : ∀ l : List Int, l.length ≤ 63 → ∃ ρ' σ', (ba (ex (O 20) (am (bG 74)) 2000 100) (av (bG 74)) (aS [] ([S "script"].zip [.lst (l.map .int)])) []).run = some (.ret (.bool true), ρ', σ')) :
  WalkO q1 fF (fun _ _ => True) YP rO.toRowW d0 [] fun f vs => PySem.call f vs := by
 intro w s₀ s₁ mg mb G Y a o pm cd doc dV kV ho hd hcd hdf hmg hgens args vals as hpre hlay hr hwell hsys
 clear hlay hr; obtain ⟨l, rfl, hl⟩ := rQ hpre
 have ha : a = 330 := by
  have h1 : mg (S "law") = (hz w.params).nsMap mainGlobals (S "law") := qL G.T.g ((GW w).g.keeps Y.hz) _
  have h2 : (hz w.params).nsMap mainGlobals (S "law") = some (.ref 330) := by kernel_rfl
  have h3 : mg (S "law") = some (.ref a) := hmg
  rw [h1, h2] at h3
  clear ho hmg; cases h3
  rfl
 clear ho hmg; subst ha
 cases hwell with
 | cons h1 h2 =>
  cases h2
  cases h1 with
  | list hla hli =>
   rename_i la vs
   obtain ⟨ρ', σ', hrun⟩ := plain l hl
   have h6 : la ≠ 6 := by
    rintro rfl
    have h7 := EB w.params
    have h8 := Y _ _ h7
    rw [hla] at h8
    have h9 : Value.type "list" = Value.type "dict" := congrArg Obj.cls (Option.some.inj h8)
    injection h9 with h9
    exact absurd h9 (by decide)
   have S₀ : St (hz w.params) (up (fq AL la (ao vs.toArray 0)) s₁) topE (fq AL la (ao vs.toArray 0)) [] [] [] [] s₁ := xl Y (fun b ob h => by
    by_cases e : b = la
    ·subst e
     rw [aP] at h
     cases h
     exact hla
    ·rw [a0 _ _ e] at h; cases h) (by rw [a0 _ _ (Ne.symm h6)]; rfl) (by rw [hgens]; exact .empty)
   have he : (⟨330, bG 74, [S "script"], 1, 0, []⟩ : FE) ∈ feT := sT (x := S "law") (by kernel_rfl)
   have hR : Room (2 * 20 + 1) callerA := ⟨rfl, by decide, by decide⟩
   refine wpAny_mono (tj (D6 w 20) (dK he) (iE he (ds := [.lst (l.map .int)]) (kws := []) rfl rfl) (fun x hx => List.all_eq_true.mp (EP) x hx) hrun hR S₀ ?_) (fun v s' h => ?_) fun _ _ x => x.elim
   ·exact ⟨⟨la, vs.toArray, 0, rfl, aP .., oh hli⟩, trivial⟩
   ·obtain ⟨rfl, h3, h4, h5⟩ := h
    exact ⟨.inl ⟨.bool true, .bool true, [], rfl, fun _ => rfl, .bool true, BE l, fun _ => ⟨List.nodup_nil, fun a ha => by cases ha⟩⟩, ⟨fun b o e => .inl (h3 b o e), fun b o e => ⟨o, h3 b o e⟩⟩, h4, h5⟩
end
section
inductive It where
 | skip (n : Nat)
 | b (c : Bool)
 | d (x : D)
 | s (x : D × aa)
noncomputable def dt {α : Type} : T α → List It → Option (α × Prop)
 | .ret a, _ => some (a, True)
 | .fail, _ => none
 | .look t o k, p => match p with
  | [] => o.bind fun a => dt (k a) []
  | .skip 0 :: p => o.bind fun a => dt (k a) p
  | .skip (n + 1) :: p => o.bind fun a => dt (k a) (.skip n :: p)
  | .b c :: p => match t, o, k with
   | .b, o, k => (dt (k c) p).map fun r => (r.1, o = some c ∧ r.2)
   | _, _, _ => none
  | .d c :: p => match t, o, k with
   | .d, o, k => (dt (k c) p).map fun r => (r.1, o = some c ∧ r.2)
   | _, _, _ => none
  | .s c :: p => match t, o, k with
   | .s, o, k => (dt (k c) p).map fun r => (r.1, o = some c ∧ r.2)
   | _, _, _ => none
 | .ask b x y, p => match p with
  | [] => cond b (dt x []) (dt y [])
  | .skip 0 :: p => cond b (dt x p) (dt y p)
  | .skip (n + 1) :: p => cond b (dt x (.skip n :: p)) (dt y (.skip n :: p))
  | .b c :: p => cond c ((dt x p).map fun r => (r.1, b = true ∧ r.2)) ((dt y p).map fun r => (r.1, b = false ∧ r.2))
  | _ => none
theorem cJ {α : Type} : ∀ (t : T α) (p : List It) {a : α} {g : Prop}, dt t p = some (a, g) → g → t.run = some a
 | .ret a, _, _, _, h, _ => by cases h; rfl
 | .fail, _, _, _, h, _ => by cases h
 | .look t o k, p, a, g, h, hg => by
  have aut : ∀ {p}, (o.bind fun a => dt (k a) p) = some (a, g) → (T.look t o k).run = some a := fun {p} => bE fun x h1 h2 => by
   show (o.bind fun a => (k a).run) = _
   rw [h1]
   exact cJ (k x) p h2 hg
  have tell : ∀ {p} {c : t.el}, ((dt (k c) p).map fun r => (r.1, o = some c ∧ r.2)) = some (a, g) → (T.look t o k).run = some a := fun {p c} => mE fun x h1 h2 => by
   clear h aut; cases h2
   show (o.bind fun a => (k a).run) = _
   rw [hg.1]
   exact cJ (k c) p h1 hg.2
  rcases p with _ | ⟨i, p⟩
  ·exact aut h
  ·cases i with
   | skip n => cases n with
    | zero => exact aut h
    | succ n => exact aut h
   | b c => cases t <;> first | (cases h; done) | exact tell h
   | d c => cases t <;> first | (cases h; done) | exact tell h
   | s c => cases t <;> first | (cases h; done) | exact tell h
 | .ask b x y, p, a, g, h, hg => by
  have aut : ∀ {p}, cond b (dt x p) (dt y p) = some (a, g) → (T.ask b x y).run = some a := fun {p} h => by
   cases b with
   | true => exact cJ x p h hg
   | false => exact cJ y p h hg
  rcases p with _ | ⟨i, p⟩
  ·exact aut h
  ·cases i with
   | skip n => cases n with
    | zero => exact aut h
    | succ n => exact aut h
   | b c =>
    cases c with
    | true =>
     revert h; refine mE fun r h1 h2 => ?_
     clear aut; cases h2
     obtain ⟨rfl, h3⟩ := hg
     exact cJ x p h1 h3
    | false =>
     revert h; refine mE fun r h1 h2 => ?_
     clear aut; cases h2
     obtain ⟨rfl, h3⟩ := hg
     exact cJ y p h1 h3
   | d c => cases h
   | s c => cases h
theorem aI {a b : Prop} (x : a) (y : b) : a ∧ b := ⟨x, y⟩
end
section
theorem ac {α : Type} {t : T α} {p : List It} {a : α} {g : Prop} (h : dt t p = some (a, g)) (hg : g) : t.run = some a := cJ t p h hg
noncomputable def Es (o : aO) (e : FE) (ds : List D) (kws : List (Str × D)) (σ : aa) : T (Fl × aj × aa) := ba (ex o (am e.st) 2000 100) (av e.st) (aS [] (e.xs.zip (ds ++ List.replicate e.nd .none ++ kws.map (·.2)))) σ
theorem iT {o : aO} {e : FE} {ds : List D} {kws : List (Str × D)} {σ σ' : aa} {r : D} {q : Fl × aj × aa} (h : (ds.length == e.na && nv e.kw kws) = true) (hr : (Es o e ds kws σ).run = some q) (hq : jQ q = some (r, σ')) : fU o e ds kws σ = some (r, σ') := by
 delta fU
 rw [h]
 show (Es o e ds kws σ).run.bind jQ = _
 rw [hr]
 exact hq
theorem aK {o : aO} {e : FE} {ds : List D} {kws : List (Str × D)} {σ : aa} {r : D} {q : Fl × aj × aa} (h : (ds.length == e.na && nv e.kw kws) = true) (hp : dO ds = true) (hr : (Es o e ds kws []).run = some q) (hq : (jQ q).map (·.1) = some r) (hp2 : iv r = true) : kA o e ds kws σ = some (r, σ) := by
 revert hq; refine mP fun r' σ' h1 h2 => ?_
 cases h2
 delta kA xH
 rw [hp, iT h hr h1]
 show ((((gd (iv r')).map fun _ => r').map fun r => (r, σ)).or _) = _
 rw [hp2]
 rfl
theorem bO {o : aO} {e : FE} {ds : List D} {kws : List (Str × D)} {σ σ' : aa} {r : D} {q : Fl × aj × aa} (h : (ds.length == e.na && nv e.kw kws) = true) (hp : dO ds = false) (hr : (Es o e ds kws σ).run = some q) (hq : jQ q = some (r, σ')) : kA o e ds kws σ = some (r, σ') := by
 delta kA xH
 rw [hp]
 exact iT h hr hq
theorem dw {n : Nat} {x : Str} {e : FE} (h : fnN.lookup x = some e) (ds : List D) (σ : aa) : (O (n + 1)).fn x ds σ = kA (O n) e ds [] σ := by
 show (fnN.lookup x).bind _ = _
 rw [h]
 rfl
theorem gj {n : Nat} {c : Nat} {x : Str} {e : FE} (h : meN.lookup (c, x) = some e) (ds : List D) (kws : List (Str × D)) (σ : aa) : (O (n + 1)).meth c x ds kws σ = kA (O n) e ds kws σ := by
 show (meN.lookup (c, x)).bind _ = _
 rw [h]
 rfl
section
variable {o : aO} {f : Fn} {M n : Nat} {ex' : mQ} {l a b : List Stmt} {ρ ρ₁ ρ₂ : aj} {σ σ₁ σ₂ σ₃ : aa} {lk : Option Nat} {items : List D} {fl : Fl} {r : Option (Fl × aj × aa)} {d : D} {c : Bool}
theorem jk : ∀ (a : List Stmt) {b : List Stmt} {ρ : aj} {σ : aa}, (ba ex' a ρ σ).run = some (.next, ρ₁, σ₁) → (ba ex' (a ++ b) ρ σ).run = (ba ex' b ρ₁ σ₁).run
 | [], b, ρ, σ, h => by cases h; rfl
 | s :: a, b, ρ, σ, h => by
  revert h; refine tT fun fl ρ₂ σ₂ h1 h2 => ?_
  show ((ex' s ρ σ).bind _).run = _
  rw [T.run_bind, h1]
  cases fl with
  | next => exact jk a h2
  | brk => cases h2
  | ret d => cases h2
theorem aw (k : Nat) (h : (ba ex' (l.take k) ρ σ).run = some (.next, ρ₁, σ₁)) (h2 : (ba ex' (l.drop k) ρ₁ σ₁).run = r) : (ba ex' l ρ σ).run = r := by
 rw [← List.take_append_drop k l, jk _ h]
 exact h2
noncomputable def fH (l : List Stmt) : Stmt := l.headD (.Pass default)
noncomputable def jU : Expr := .Constant .none 0 default
noncomputable def cx (l : List Stmt) : Expr := match kz (fH l) with | .for t _ _ => t | .whil t _ => t | .ifs t _ _ => t | _ => jU
noncomputable def ua (l : List Stmt) : Expr := match kz (fH l) with | .for _ i _ => i | _ => jU
noncomputable def bN (l : List Stmt) : List Stmt := match kz (fH l) with | .for _ _ b => b | .whil _ b => b | .ifs _ a _ => a | _ => []
noncomputable def wC (l : List Stmt) : List Stmt := match kz (fH l) with | .ifs _ _ b => b | _ => []
noncomputable def kind (l : List Stmt) : Nat := match l with | [] => 0 | _ :: _ => match kz (fH l) with | .for .. => 1 | .whil .. => 2 | .ifs .. => 3 | _ => 4
theorem eF {k : Nat} (h : kind l = k + 1) : l = fH l :: l.tail := by
 cases l with
 | nil => cases h
 | cons s l => rfl
theorem jj {s : Stmt} (h : (ex' s ρ σ).run = some (.next, ρ₁, σ₁)) (h2 : (ba ex' l ρ₁ σ₁).run = r) : (ba ex' (s :: l) ρ σ).run = r := by
 show ((ex' s ρ σ).bind _).run = _
 rw [T.run_bind, h]
 exact h2
theorem qt {s : Stmt} (h : (ex' s ρ σ).run = some (.ret d, ρ₁, σ₁)) : (ba ex' (s :: l) ρ σ).run = some (.ret d, ρ₁, σ₁) := by
 show ((ex' s ρ σ).bind _).run = _
 rw [T.run_bind, h]
 rfl
theorem uL (h : kind l = 1) : kz (fH l) = .for (cx l) (ua l) (bN l) := by
 delta cx ua bN
 cases l with
 | nil => cases h
 | cons s l =>
  delta kind at h
  simp only at h
  generalize kz (fH (s :: l)) = v at h
  cases v <;> first | rfl | cases h
theorem rK (h : kind l = 2) : kz (fH l) = .whil (cx l) (bN l) := by
 delta cx bN
 cases l with
 | nil => cases h
 | cons s l =>
  delta kind at h
  simp only at h
  generalize kz (fH (s :: l)) = v at h
  cases v <;> first | rfl | cases h
theorem uI (h : kind l = 3) : kz (fH l) = .ifs (cx l) (bN l) (wC l) := by
 delta cx bN wC
 cases l with
 | nil => cases h
 | cons s l =>
  delta kind at h
  simp only at h
  generalize kz (fH (s :: l)) = v at h
  cases v <;> first | rfl | cases h
theorem px (hf : kind l = 1) (hi : (bJ o f (aD o n f).1 (ua l) ρ σ).run = some (lk, items, σ₁)) (hb : (cV f (ex o f M n) (cx l) (bN l) items ρ σ₁).run = some (fl, ρ₂, σ₂)) (hu : bL σ₂ lk = some σ₃) : (ex o f M (n + 1) (fH l) ρ σ).run = some (fl, ρ₂, σ₃) := by
 show (AN o f (aD o n f).1 (aD o n f).2 (ex o f M n) M (kz (fH l)) ρ σ).run = _
 rw [uL hf]
 show ((bJ o f (aD o n f).1 (ua l) ρ σ).bind _).run = _
 rw [T.run_bind, hi]
 show ((cV f (ex o f M n) (cx l) (bN l) items ρ σ₁).bind _).run = _
 rw [T.run_bind, hb]
 show (T.lb (bL σ₂ lk) _).run = _
 rw [hu]
 rfl
theorem bA (hf : kind l = 1) (hi : (bJ o f (aD o n f).1 (ua l) ρ σ).run = some (lk, items, σ₁)) (hb : (cV f (ex o f M n) (cx l) (bN l) items ρ σ₁).run = some (.next, ρ₂, σ₂)) (hu : bL σ₂ lk = some σ₃) (hr : (ba (ex o f M (n + 1)) l.tail ρ₂ σ₃).run = r) : (ba (ex o f M (n + 1)) l ρ σ).run = r := by
 rw [eF hf]
 exact jj (px hf hi hb hu) hr
theorem mt (hf : kind l = 1) (hi : (bJ o f (aD o n f).1 (ua l) ρ σ).run = some (lk, items, σ₁)) (hb : (cV f (ex o f M n) (cx l) (bN l) items ρ σ₁).run = some (.ret d, ρ₂, σ₂)) (hu : bL σ₂ lk = some σ₃) : (ba (ex o f M (n + 1)) l ρ σ).run = some (.ret d, ρ₂, σ₃) := by
 rw [eF hf]
 exact qt (px hf hi hb hu)
theorem g7 (hf : kind l = 2) (hb : (cz (aD o n f).2 (ex o f M n) (cx l) (bN l) M ρ σ).run = some (.next, ρ₂, σ₂)) (hr : (ba (ex o f M (n + 1)) l.tail ρ₂ σ₂).run = r) : (ba (ex o f M (n + 1)) l ρ σ).run = r := by
 rw [eF hf]
 refine jj ?_ hr
 show (AN o f (aD o n f).1 (aD o n f).2 (ex o f M n) M (kz (fH l)) ρ σ).run = _
 rw [rK hf]
 exact hb
theorem zg (hf : kind l = 3) (ht : ((aD o n f).2 (cx l) ρ σ).run = some (c, σ₁)) (hb : (ba (ex o f M n) (cond c (bN l) (wC l)) ρ σ₁).run = r) : (ex o f M (n + 1) (fH l) ρ σ).run = r := by
 show (AN o f (aD o n f).1 (aD o n f).2 (ex o f M n) M (kz (fH l)) ρ σ).run = _
 rw [uI hf]
 show (((aD o n f).2 (cx l) ρ σ).bind _).run = _
 rw [T.run_bind, ht]
 clear ht; cases c <;> exact hb
theorem g8 (hf : kind l = 3) (ht : ((aD o n f).2 (cx l) ρ σ).run = some (c, σ₁)) (hb : (ba (ex o f M n) (cond c (bN l) (wC l)) ρ σ₁).run = some (.next, ρ₂, σ₂)) (hr : (ba (ex o f M (n + 1)) l.tail ρ₂ σ₂).run = r) : (ba (ex o f M (n + 1)) l ρ σ).run = r := by
 rw [eF hf]
 exact jj (zg hf ht hb) hr
end
section
variable {α β : Type} {f : Fn} {ex' : mQ} {t : Expr} {b : List Stmt}
noncomputable def v9 (n : Nat) (q : Fl × aj × aa) : Fl × aj × aa := match q.1 with | .ret _ => q | fl => (fl, q.2.1.take n, q.2.2)
noncomputable def turn (f : Fn) (ex' : mQ) (t : Expr) (b : List Stmt) (d : D) (ρ : aj) (σ : aa) : T (Fl × aj × aa) := .lb (ct f t d ρ) fun ρ₁ => (ba ex' b ρ₁ σ).map (v9 ρ.length)
theorem fQ {d : D} {ρ ρ₁ : aj} {σ : aa} {q r : Fl × aj × aa} (h1 : ct f t d ρ = some ρ₁) (h2 : (ba ex' b ρ₁ σ).run = some q) (h3 : v9 ρ.length q = r) : (turn f ex' t b d ρ σ).run = some r := by
 show (T.lb (ct f t d ρ) _).run = _
 rw [h1]
 show ((ba ex' b ρ₁ σ).bind _).run = _
 rw [T.run_bind, h2, ← h3]
 rfl
noncomputable def fZ (step : α → β → α) (ok : α → β → Prop) : α → List β → Prop
 | _, [] => True
 | a, x :: xs => ok a x ∧ fZ step ok (step a x) xs
theorem d6 {step : α → β → α} {ok : α → β → Prop} (I : α → Prop) (P : β → Prop) (h1 : ∀ a x, I a → P x → ok a x ∧ I (step a x)) : ∀ {xs : List β} {a : α}, I a → (∀ x ∈ xs, P x) → fZ step ok a xs
 | [], _, _, _ => trivial
 | x :: xs, a, hI, hP => ⟨(h1 a x hI (hP x (List.mem_cons_self ..))).1, d6 I P h1 (h1 a x hI (hP x (List.mem_cons_self ..))).2 fun y hy => hP y (List.mem_cons_of_mem _ hy)⟩
theorem au {d : D} {ds : List D} {ρ ρ₁ : aj} {σ σ₁ : aa} {fl : Fl} (h : (turn f ex' t b d ρ σ).run = some (fl, ρ₁, σ₁)) : (cV f ex' t b (d :: ds) ρ σ).run = match fl with
  | .next => (cV f ex' t b ds ρ₁ σ₁).run
  | .brk => some (.next, ρ₁, σ₁)
  | .ret d => some (.ret d, ρ₁, σ₁) := by
 refine lE (fun ρ' h1 h2 => ?_) h
 refine GK (fun q h3 h4 => ?_) h2
 show (T.lb (ct f t d ρ) _).run = _
 rw [h1]
 show ((ba ex' b ρ' σ).bind _).run = _
 rw [T.run_bind, h3]
 clear h3; obtain ⟨fl', ρ₂, σ₂⟩ := q
 cases fl' <;> cases h4 <;> rfl
theorem cr (enc : β → D) (R : α → aj × aa) (step : α → β → α) (ok : α → β → Prop) (h : ∀ a x, ok a x → (turn f ex' t b (enc x) (R a).1 (R a).2).run = some (.next, R (step a x))) :
  ∀ (xs : List β) (a : α), fZ step ok a xs → (cV f ex' t b (xs.map enc) (R a).1 (R a).2).run = some (.next, R (xs.foldl step a))
 | [], a, _ => rfl
 | x :: xs, a, hk => by
  rw [List.map_cons, au (h a x hk.1)]
  exact cr enc R step ok h xs _ hk.2
end
noncomputable def F4 (v : V) (i : Nat) : Expr := match v with
 | .bin l _ r _ => [l, r].getD i jU
 | .neg e => e
 | .nott e => e
 | .ifx t a b => [t, a, b].getD i jU
 | .band vs => vs.getD i jU
 | .bor vs => vs.getD i jU
 | .cmp l _ r => [l, r].getD i jU
 | .attr v _ => v
 | .slice v a b _ => (v :: a.toList ++ b.toList).getD i jU
 | .rev v c _ => [v, c].getD i jU
 | .sub v j => [v, j].getD i jU
 | .list es _ => es.getD i jU
 | .tup es => es.getD i jU
 | .comp elt _ it ifs _ => (elt :: it :: ifs).getD i jU
 | .callN _ as => as.getD i jU
 | .callM v _ _ as _ => (v :: as).getD i jU
 | _ => jU
noncomputable def rZ (e : Expr) : List Nat → Expr
 | [] => e
 | i :: p => rZ (F4 (view e) i) p
noncomputable def oG (s : Stmt) : Expr := match kz s with
 | .expr e => e
 | .assign _ e => e
 | .augN _ _ e => e
 | .augS _ _ _ e => e
 | .ifs t _ _ => t
 | .whil t _ => t
 | .for _ it _ => it
 | .ret e => e
 | _ => jU
noncomputable def AS (e : Expr) : Expr := match view e with | .comp elt .. => elt | _ => jU
noncomputable def AP (e : Expr) : Expr := match view e with | .comp _ t .. => t | _ => jU
noncomputable def AQ (e : Expr) : Expr := match view e with | .comp _ _ it .. => it | _ => jU
noncomputable def AR (e : Expr) : List Expr := match view e with | .comp _ _ _ ifs _ => ifs | _ => []
noncomputable def DP (e : Expr) : Scope := match view e with | .comp _ _ _ _ sc => sc | _ => default
noncomputable def cX (o : aO) (f : Fn) (n : Nat) (e : Expr) (ρ : aj) (σ : aa) : T (D × aa) := tf o f (aD o n f).1 (fun sc => aD o n (ca f sc)) (AS e) (AP e) (AQ e) (AR e) (DP e) ρ σ
noncomputable def wa (f : Fn) (et : cy × fN) (e : Expr) (d : D) (ρ : aj) (σ : aa) : T (Option D × aa) := .lb (ct f (AP e) d ρ) fun ρ₁ => (om et.2 (AR e) ρ₁ σ).bind fun (c, σ₁) => .ask c ((et.1 (AS e) ρ₁ σ₁).bind fun (x, σ₂) => .ret (some x, σ₂)) (.ret (none, σ₁))
theorem ka {β : Type} {f : Fn} {et : cy × fN} {e : Expr} {ρ : aj} {σ : aa} (enc : β → D) (g : β → Option D) : ∀ (xs : List β), (∀ x ∈ xs, (wa f et e (enc x) ρ σ).run = some (g x, σ)) →
  (fk f et.1 et.2 (AP e) (AS e) (AR e) ρ (xs.map enc) σ).run = some (xs.filterMap g, σ)
 | [], _ => rfl
 | x :: xs, h => by
  have ih := ka enc g xs fun y hy => h y (List.mem_cons_of_mem _ hy)
  refine lE (fun ρ₁ h1 h2 => ?_) (h x (List.mem_cons_self ..))
  revert h2; refine tP fun c σ₁ h3 h4 => ?_
  show (T.lb (ct f (AP e) (enc x) ρ) _).run = _
  rw [h1]
  show ((om et.2 (AR e) ρ₁ σ).bind _).run = _
  rw [T.run_bind, h3]
  cases c with
  | true =>
   revert h4; refine tP fun y σ₂ h5 h6 => ?_
   show ((et.1 (AS e) ρ₁ σ₁).bind _).run = _
   rw [T.run_bind, h5]
   have h6 : some (some y, σ₂) = some (g x, σ) := h6
   obtain ⟨h7, h8⟩ := Prod.mk.inj (Option.some.inj h6)
   clear h h3 h6; subst h8
   show ((fk f et.1 et.2 (AP e) (AS e) (AR e) ρ (xs.map enc) σ₂).bind _).run = _
   rw [T.run_bind, ih, List.filterMap_cons, ← h7]
   rfl
  | false =>
   have h4 : some (none, σ₁) = some (g x, σ) := h4
   obtain ⟨h7, h8⟩ := Prod.mk.inj (Option.some.inj h4)
   clear h h3 h4; subst h8
   show (fk f et.1 et.2 (AP e) (AS e) (AR e) ρ (xs.map enc) σ₁).run = _
   rw [ih, List.filterMap_cons, ← h7]
theorem aM {β : Type} {o : aO} {f : Fn} {n : Nat} {e : Expr} {ρ : aj} {σ σ₁ σ₂ : aa} {lk : Option Nat} (enc : β → D) (g : β → Option D) (xs : List β) (h0 : (f.own && jm f (DP e)) = true) (hi : (bJ o f (aD o n f).1 (AQ e) ρ σ).run = some (lk, xs.map enc, σ₁)) (hl : xs.length ≤ cC)
  (h : ∀ x ∈ xs, (wa (ca f (DP e)) (aD o n (ca f (DP e))) e (enc x) (iB (DP e) ρ) σ₁).run = some (g x, σ₁)) (hu : bL σ₁ lk = some σ₂) : (cX o f n e ρ σ).run = some (.lst (xs.filterMap g), σ₂) := by
 delta cX tf
 rw [h0]
 show ((bJ o f (aD o n f).1 (AQ e) ρ σ).bind _).run = _
 rw [T.run_bind, hi]
 show (gT (decide ((xs.map enc).length ≤ cC)) _).run = _
 rw [List.length_map, decide_eq_true hl]
 show ((fk _ _ _ _ _ _ _ (xs.map enc) σ₁).bind _).run = _
 rw [T.run_bind, ka enc g xs h]
 show (T.lb (bL σ₁ lk) _).run = _
 rw [hu]
 rfl
end
section
noncomputable abbrev nI (n : Nat) : D := .int n
theorem bQ (x y : Nat) : ((x : Int) == (y : Int)) = (x == y) := by
 rw [Bool.eq_iff_iff, beq_iff_eq, beq_iff_eq]; lia
theorem m6 {i : Nat} (hb : i < 1000000) : iP (i : Int) = true := by delta iP; rw [decide_eq_true_iff]; lia
theorem ky {i n : Nat} (h : i < n) : seqIndex? (i : Int) n = some i := by
 unfold seqIndex?
 have h0 : ¬((i : Int) < 0) := by lia
 simp only [h0, if_false]
 rw [if_pos (by rw [Bool.and_eq_true, decide_eq_true_iff, decide_eq_true_iff]; lia)]
 rfl
theorem qm {σ : aa} {d : D} {l : List D} (h : fT σ d = some l) {i : Nat} {x : D} (hi : l[i]? = some x) (hb : i < 1000000) : jf σ d (i : Int) = some x := by
 delta jf
 rw [h, Option.bind_some, m6 hb, ky (List.getElem?_eq_some_iff.mp hi).1]
 exact hi
theorem bZ {σ : aa} {d : D} {l : List D} (h : fT σ d = some l) {i : Nat} {x : D} (hi : l[i]? = some x) (hb : i < 1000000) {o : aO} : al o σ d (nI i) = some x := by
 delta al nI
 rw [show aC (.int (i : Int)) = some (i : Int) from rfl, Option.bind_some, qm h hi hb]
 rfl
theorem bv (b : Bool) : (false != b) = b := by cases b <;> rfl
theorem bj {α : Type} {f : α → D} (h : ∀ x, iv (f x) = true) : ∀ l : List α, dO (l.map f) = true
 | [] => rfl
 | x :: l => by simp only [List.map_cons, lN, lM, h x, Bool.true_and]; exact bj h l
noncomputable def gp (st : List Nat × Nat) (w : Nat × Nat) : List Nat × Nat := if st.1.getD w.1 0 == st.1.getD w.2 0 then (st.1, st.2 + 1) else (st.1.map fun jz => if jz == st.1.getD w.1 0 then st.1.getD w.2 0 else jz, st.2)
noncomputable def iA (wires : List (Nat × Nat)) (joints : Nat) : List Nat × Nat := wires.foldl gp (List.range joints, 0)
noncomputable def aQ (wires : List (Nat × Nat)) (joints : Nat) : Bool × Bool := ((iA wires joints).2 == 0, (iA wires joints).1.getD 0 0 == (iA wires joints).1.getD 1 0)
noncomputable def jR (ws : List D) (jo : Int) (st : List Nat × Nat) : aj × aa := ([(S "wires", .lst ws), (S "joints", .int jo), (S "label", .lst (st.1.map nI)), (S "rings", .int st.2)], [])
noncomputable abbrev m0 : Stmt := bG 72
noncomputable abbrev j1 : List Stmt := (av m0).drop 1
noncomputable abbrev F7 : Expr := oG (fH (wC (bN j1)).tail)
noncomputable abbrev HC : FE := ⟨320, m0, [S "wires", S "joints"], 2, 0, []⟩
noncomputable abbrev jx (a b x y : D) : aj := [(S "near", a), (S "far", b), (S "old", x), (S "new", y)]
theorem y5 (k : Nat) (ws : List D) (jo : Int) (lab : List Nat) (rings x y : Nat) (p q : D) (hl : lab.length ≤ 100) :
  (cX (O (k + 1)) (am m0) 96 F7 ((jR ws jo (lab, rings)).1 ++ jx p q (nI x) (nI y)) []).run = some (.lst ((lab.map fun jz => if jz == x then y else jz).map nI), []) := by
 have := aM (o := O (k + 1)) (f := am m0) (n := 96) (e := F7) (lk := none) (σ₁ := []) (ρ := (jR ws jo (lab, rings)).1 ++ jx p q (nI x) (nI y)) (σ := []) (σ₂ := []) nI (fun jz => some (nI (if jz == x then y else jz))) lab (by kernel_rfl) (ac (p := []) (by kernel_rfl) trivial) (Nat.le_trans hl (by decide)) (fun jz _ => ?_) rfl
 ·rw [this, List.filterMap_eq_map', List.map_map]; rfl
 ·cases hc : jz == x
  ·exact ac (p := [.skip 1, .b false]) (g := (false != ((jz : Int) == (x : Int))) = false ∧ True) (by kernel_rfl) ⟨by rw [bv, bQ, hc], trivial⟩
  ·exact ac (p := [.skip 1, .b true]) (g := (false != ((jz : Int) == (x : Int))) = true ∧ True) (by kernel_rfl) ⟨by rw [bv, bQ, hc], trivial⟩
theorem kS {o : aO} {σ : aa} {l : List Nat} {i : Nat} (h : i < l.length) (h2 : l.length ≤ 100) : al o σ (.lst (l.map nI)) (nI i) = some (nI (l.getD i 0)) :=
 bZ (l := l.map nI) rfl (by rw [List.getElem?_map, List.getD_eq_getElem?_getD, List.getElem?_eq_getElem h]; rfl) (by lia)
theorem y0 (k : Nat) (ws : List D) (jo : Int) (st : List Nat × Nat) (w : Nat × Nat) (h : w.1 < st.1.length ∧ w.2 < st.1.length ∧ st.1.length ≤ 100) :
  (turn (am m0) (ex (O (k + 1)) (am m0) 2000 99) (cx j1) (bN j1) (.tup [nI w.1, nI w.2]) (jR ws jo st).1 (jR ws jo st).2).run = some (.next, jR ws jo (gp st w)) := by
 obtain ⟨lab, rings⟩ := st
 obtain ⟨a, b⟩ := w
 obtain ⟨h1, h2, h3⟩ := h
 have hx := kS (o := O (k + 1)) (σ := []) h1 h3
 have hy := kS (o := O (k + 1)) (σ := []) h2 h3
 delta gp
 simp only at hx hy ⊢
 generalize lab.getD a 0 = x at *
 generalize lab.getD b 0 = y at *
 cases hc : x == y
 ·have hz := y5 k ws jo lab rings x y (nI a) (nI b) h3
  rw [if_neg Bool.false_ne_true]
  exact ac (p := [.d (nI x), .d (nI y), .skip 0, .b false, .d (nI x), .d (nI y), .s (.lst ((lab.map fun jz => if jz == x then y else jz).map nI), [])])
   (g := al (O (k + 1)) [] (.lst (lab.map nI)) (nI a) = some (nI x) ∧ al (O (k + 1)) [] (.lst (lab.map nI)) (nI b) = some (nI y) ∧ (false != ((x : Int) == (y : Int))) = false ∧ al (O (k + 1)) [] (.lst (lab.map nI)) (nI a) = some (nI x) ∧ al (O (k + 1)) [] (.lst (lab.map nI)) (nI b) = some (nI y) ∧
    (cX (O (k + 1)) (am m0) 96 F7 ((jR ws jo (lab, rings)).1 ++ jx (nI a) (nI b) (nI x) (nI y)) []).run = some (.lst ((lab.map fun jz => if jz == x then y else jz).map nI), []) ∧ True) (by kernel_rfl) ⟨hx, hy, by rw [bv, bQ, hc], hx, hy, hz, trivial⟩
 ·rw [if_pos rfl]
  exact ac (p := [.d (nI x), .d (nI y), .skip 0, .b true]) (g := al (O (k + 1)) [] (.lst (lab.map nI)) (nI a) = some (nI x) ∧ al (O (k + 1)) [] (.lst (lab.map nI)) (nI b) = some (nI y) ∧ (false != ((x : Int) == (y : Int))) = true ∧ True) (by kernel_rfl) ⟨hx, hy, by rw [bv, bQ, hc], trivial⟩
theorem nc (n : Nat) : bx 0 (n : Int) = (List.range n).map nI := by
 delta bx
 rw [show ((n : Int) - 0).toNat = n by lia]
 exact List.map_congr_left fun k _ => by rw [Int.zero_add]
theorem j0 (st : List Nat × Nat) (w : Nat × Nat) : (gp st w).1.length = st.1.length := by
 delta gp
 split <;> simp
theorem l9 (l : List (Nat × Nat)) : ∀ st, (l.foldl gp st).1.length = st.1.length := by
 induction l with
 | nil => exact fun _ => rfl
 | cons w l ih => exact fun st => (ih _).trans (j0 st w)
noncomputable def ad (w : Nat × Nat) : D := .tup [nI w.1, nI w.2]
theorem mF (k : Nat) (ws : List (Nat × Nat)) (jo : Nat) (σ : aa) (h1 : ∀ w ∈ ws, w.1 < jo ∧ w.2 < jo) (h2 : 2 ≤ jo) (h3 : jo ≤ 100) :
  (O (k + 2)).fn (S "_law_joined") [.lst (ws.map ad), nI jo] σ = some (.tup [.bool (aQ ws jo).1, .bool (aQ ws jo).2], σ) := by
 rw [dw (n := k + 1) (e := HC) (by kernel_rfl)]
 have hpf : dO [.lst (ws.map ad), nI jo] = true := by
  have : ∀ l : List (Nat × Nat), dO (l.map ad) = true := fun l => by
   induction l with
   | nil => rfl
   | cons w l ih => simpa only [List.map_cons, dO, ad, iv, Bool.and_true, Bool.true_and, Bool.and_self] using ih
  simp only [lN, lM, eU, eO, fC, eN, eT, eQ, this, Bool.and_true]
 have hok : fZ gp (fun st w => w.1 < st.1.length ∧ w.2 < st.1.length ∧ st.1.length ≤ 100) (List.range jo, 0) ws :=
  d6 (fun st => st.1.length = jo) (fun w => w.1 < jo ∧ w.2 < jo) (fun a x ha hx => ⟨by rw [ha]; exact ⟨hx.1, hx.2, h3⟩, (j0 _ _).trans ha⟩) List.length_range h1
 have hfor := cr ad (jR (ws.map ad) jo) gp _ (y0 k (ws.map ad) jo) ws (List.range jo, 0) hok
 have hlen := l9 ws (List.range jo, 0)
 rw [List.length_range] at hlen
 delta aQ iA
 generalize ws.foldl gp (List.range jo, 0) = st at hfor hlen ⊢
 obtain ⟨lab, rings⟩ := st
 simp only at hlen ⊢
 have hx := kS (o := O (k + 1)) (σ := []) (l := lab) (i := 0) (by lia) (by lia)
 have hy := kS (o := O (k + 1)) (σ := []) (l := lab) (i := 1) (by lia) (by lia)
 generalize lab.getD 0 0 = x at *
 generalize lab.getD 1 0 = y at *
 refine aK (q := (.ret (.tup [.bool (false != ((rings : Int) == 0)), .bool (false != ((x : Int) == (y : Int)))]), (jR (ws.map ad) jo (lab, rings)).1, [])) rfl hpf ?_ (by rw [bv, bv, bQ x y, show ((rings : Int) == 0) = (rings == 0) from bQ rings 0]; rfl) rfl
 refine aw 1 (ρ₁ := [(S "wires", .lst (ws.map ad)), (S "joints", nI jo), (S "label", .lst (bx 0 (jo : Int))), (S "rings", nI 0)]) (σ₁ := []) (ac (p := [.b true]) (g := bM 0 (jo : Int) = true ∧ True) (by kernel_rfl) ⟨by delta bM; rw [decide_eq_true_iff]; lia, trivial⟩) ?_
 rw [nc]
 refine bA (l := j1) (by kernel_rfl) (lk := none) (items := ws.map ad) (σ₁ := []) (ac (p := []) (by kernel_rfl) trivial) hfor rfl ?_
 exact ac (p := [.skip 0, .d (nI x), .d (nI y)]) (by kernel_rfl) (aI hx (aI hy trivial))
end
section
theorem jT {α β : Type} {step : α → β → α} {ok : α → β → Prop} (N : Nat) (I : Nat → α → Prop) (P : β → Prop) (h : ∀ n a x, n < N → I n a → P x → ok a x ∧ I (n + 1) (step a x)) :
  ∀ {xs : List β} {n : Nat} {a : α}, n + xs.length ≤ N → I n a → (∀ x ∈ xs, P x) → fZ step ok a xs ∧ I (n + xs.length) (xs.foldl step a)
 | [], _, _, _, hI, _ => ⟨trivial, hI⟩
 | x :: xs, n, a, hn, hI, hP => by
  rw [List.length_cons] at hn ⊢
  have h1 := h n a x (by omega) hI (hP x (List.mem_cons_self ..))
  have h2 := jT N I P h (xs := xs) (n := n + 1) (by omega) h1.2 fun y hy => hP y (List.mem_cons_of_mem _ hy)
  exact ⟨⟨h1.1, h2.1⟩, by rw [show n + (xs.length + 1) = n + 1 + xs.length by omega]; exact h2.2⟩
noncomputable def az : Nat → Bool → List Nat → List (Nat × List Nat)
 | p, true, [] => [(p - 1, [92])]
 | _, false, [] => []
 | p, true, c :: r => (p, [92, c]) :: az (p + 1) false r
 | p, false, c :: r => if c == 92 then az (p + 1) true r else (p, [c]) :: az (p + 1) false r
noncomputable def jI (q : Nat × List Nat) : D := .tup [nI q.1, .str q.2]
theorem ci : ∀ (s : List Nat) (p : Nat) (b : Bool), bm p b s = (az p b s).map jI
 | [], p, true => rfl
 | [], p, false => rfl
 | c :: r, p, true => by
  unfold bm az
  rw [List.map_cons, ci r]; rfl
 | c :: r, p, false => by
  unfold bm az
  split
  ·exact ci r _ _
  ·rw [List.map_cons, ci r]; rfl
theorem kJ : ∀ (s : List Nat) (p : Nat) (b : Bool) (N : Nat), p + s.length ≤ N → 1 ≤ N → (b = true → 1 ≤ p) → ∀ q ∈ az p b s, q.1 < N
 | [], p, true, N, h, h1, h2, q, hq => by
  rw [List.mem_singleton.mp hq]
  have := h2 rfl
  simp only [List.length_nil] at h
  show p - 1 < N
  omega
 | [], p, false, N, h, h1, h2, q, hq => by cases hq
 | c :: r, p, true, N, h, h1, h2, q, hq => by
  rw [List.length_cons] at h
  rcases List.mem_cons.mp hq with rfl | hq
  ·show p < N; omega
  ·exact kJ r _ _ N (by omega) h1 (fun e => by cases e) q hq
 | c :: r, p, false, N, h, h1, h2, q, hq => by
  rw [List.length_cons] at h
  unfold az at hq
  split at hq
  ·exact kJ r _ _ N (by omega) h1 (fun _ => by omega) q hq
  ·rcases List.mem_cons.mp hq with rfl | hq
   ·show p < N; omega
   ·exact kJ r _ _ N (by omega) h1 (fun e => by cases e) q hq
theorem dG : ∀ (s : List Nat) (p : Nat) (b : Bool), (az p b s).length ≤ s.length + (if b then 1 else 0)
 | [], p, true => Nat.le_refl _
 | [], p, false => Nat.le_refl _
 | c :: r, p, true => by
  unfold az
  have := dG r (p + 1) false
  simp only [List.length_cons, if_true] at this ⊢
  simp at this
  omega
 | c :: r, p, false => by
  unfold az
  split
  ·have := dG r (p + 1) true
   simp at this ⊢
   omega
  ·have := dG r (p + 1) false
   simp at this ⊢
   omega
theorem eE (s : List Nat) : (⟨s.toArray⟩ : Str).length = s.length := by simp [Str.length]
theorem lD {σ : aa} {s : List Nat} {a b : Nat} (hb : b ≤ s.length) (hs : s.length ≤ cC) : cI σ (.str s) (some (a : Int)) (some (b : Int)) = some (.str ((s.drop a).take (b - a))) := by
 unfold cI
 simp only [fS, Option.bind_some]
 rw [decide_eq_true hs]
 have : Txt.slice ⟨s.toArray⟩ (some (a : Int)) (some (b : Int)) = ⟨((s.drop a).take (b - a)).toArray⟩ := by
  by_cases hab : a ≤ b
  ·exact StrLaws.sliceText_nat _ hab (by rw [eE]; exact hb)
  ·unfold Txt.slice
   have e : Builtin.Str.strSliceIndices (some (a : Int)) (some (b : Int)) 1 (⟨s.toArray⟩ : Str).length = [] := by
    have h1 : ¬ ((a : Int) < 0) := by omega
    have h2 : ¬ ((b : Int) < 0) := by omega
    simp only [Builtin.Str.strSliceIndices, sliceRange, h1, h2, if_false, show ((1 : Int) > 0) = True from by simp, if_true]
    rw [if_neg (by rw [eE]; omega)]
    rfl
   rw [e]
   rw [show b - a = 0 by omega]
   split
   ·rename_i h
    simp at h
    rw [eE] at h
    rw [List.eq_nil_of_length_eq_zero h.symm]
    rfl
   ·rfl
 rw [this]
 rfl
theorem rG {σ : aa} {s : List Nat} {a : Nat} (ha : a ≤ s.length) (hs : s.length ≤ cC) : cI σ (.str s) (some (a : Int)) none = some (.str (s.drop a)) := by
 have h := lD (σ := σ) (a := a) (Nat.le_refl s.length) hs
 rw [List.take_of_length_le (by rw [List.length_drop]; exact Nat.le_refl _)] at h
 rw [← h]
 unfold cI
 simp only [fS, Option.bind_some]
 rw [show Txt.slice ⟨s.toArray⟩ (some (a : Int)) none = Txt.slice ⟨s.toArray⟩ (some (a : Int)) (some (s.length : Int)) from by
  unfold Txt.slice
  rw [StrLaws.sliceIdx_none_hi, eE]]
 rw [decide_eq_true hs]
 rfl
theorem oz (l : List (List Nat)) : kx (l.map .str) = some (l.map fun x => ⟨x.toArray⟩) := by
 unfold kx
 induction l with
 | nil => rfl
 | cons x l ih =>
  rw [List.map_cons]
  unfold fE
  rw [ih]
  rfl
theorem jY : ∀ l : List (List Nat), (Str.join ⟨#[]⟩ (l.map fun x => ⟨x.toArray⟩)).cps.toList = l.flatten
 | [] => rfl
 | [x] => by simp [Str.join]
 | x :: y :: r => by
  have ih := jY (y :: r)
  rw [List.map_cons] at ih ⊢
  rw [List.map_cons]
  show (((⟨x.toArray⟩ : Str) ++ ⟨#[]⟩ ++ Str.join ⟨#[]⟩ (⟨y.toArray⟩ :: r.map fun x => ⟨x.toArray⟩)) : Str).cps.toList = _
  rw [List.flatten_cons, ← ih]
  show ((x.toArray ++ #[] ++ _ : Array Nat)).toList = _
  simp
theorem nB {l : List (List Nat)} (h : (l.map (·.length)).sum ≤ cC) : mc [] (l.map .str) = some l.flatten := by
 unfold mc
 rw [oz, Option.bind_some, List.map_map]
 have e : ((fun x : Str => x.length) ∘ fun x : List Nat => (⟨x.toArray⟩ : Str)) = fun x : List Nat => x.length := funext eE
 rw [e]
 simp only [List.length_nil, Nat.mul_zero, Nat.add_zero]
 rw [decide_eq_true h, ← jY]
 rfl
end
section
theorem bw {o : aO} {σ : aa} {i : Nat} {x : D} {l : List D} {σ' : aa} (h : lstAt σ i = some l) (h2 : l.length ≤ 100000) (h3 : σ.set i (.lst (l ++ [x])) = σ') : aq o .append σ (.ptr i) [x] = some (.none, σ') := by
 unfold aq
 simp only [lO, oO, Option.bind_some]
 rw [h, Option.bind_some, decide_eq_true (Nat.le_trans h2 (by decide)), ← h3]
 rfl
theorem kO {o : aO} {σ : aa} {x : D} {l : List (List Nat)} (h : aF σ x = some (l.map .str)) (h2 : (l.map (·.length)).sum ≤ 10000000) : aq o .join σ (.str []) [x] = some (.str l.flatten, σ) := by
 unfold aq
 simp only [lO, fS, Option.bind_some]
 rw [h, Option.bind_some, nB (Nat.le_trans h2 (by decide))]
 rfl
theorem oI {σ : aa} {s : List Nat} (h : s.length ≤ 100000) : ak (S "len") σ [.str s] = some (nI s.length) := by
 show (((gd (decide (s.length ≤ cC))).map fun _ => D.int s.length).or _) = _
 rw [decide_eq_true (Nat.le_trans h (by decide))]
 rfl
noncomputable abbrev gL := Nat × Option Nat × List (List Nat)
noncomputable def bW (s : List Nat) (st : gL) (q : Nat × List Nat) : gL := bif q.2 == [34] then
  (match st.2.1 with
   | none => (st.1, some q.1, st.2.2)
   | some op => (q.1 + 1, none, bif st.1 != op then st.2.2 ++ [(s.drop st.1).take (op - st.1)] else st.2.2))
 else st
noncomputable def bR (s : List Nat) : List Nat := bif s.contains 34 then
  (let st := (az 0 false s).foldl (bW s) (0, none, [])
   (bif Nat.blt st.1 s.length then st.2.2 ++ [s.drop st.1] else st.2.2).flatten)
 else s
noncomputable abbrev Ec : Stmt := bG 3
noncomputable abbrev z1 : List Stmt := (av Ec).drop 4
noncomputable abbrev e3 : FE := ⟨52, Ec, [S "addr"], 1, 0, []⟩
noncomputable def Ff : Option Nat → D | none => .none | some n => nI n
noncomputable def sR (s : List Nat) (st : gL) : aj × aa := ([(S "addr", .str s), (S "start", nI st.1), (S "open_pos", Ff st.2.1), (S "result", .ptr 0)], [.lst (st.2.2.map .str)])
theorem xG (k : Nat) (s : List Nat) (hs : s.length ≤ 1000) (st : gL) (q : Nat × List Nat) (h : (∀ op, st.2.1 = some op → op ≤ s.length) ∧ st.2.2.length ≤ 1000) :
  (turn (am Ec) (ex (O (k + 1)) (am Ec) 2000 99) (cx z1) (bN z1) (jI q) (sR s st).1 (sR s st).2).run = some (.next, sR s (bW s st q)) := by
 obtain ⟨a, op, res⟩ := st
 obtain ⟨p, ch⟩ := q
 obtain ⟨h1, h2⟩ := h
 unfold bW
 simp only at h1 h2 ⊢
 cases he : ch == [34]
 ·exact ac (p := [.b false]) (by kernel_rfl) (aI (congrArg some ((bv _).trans he)) trivial)
 ·have hc : some (false != (ch == [34])) = some true := congrArg some ((bv _).trans he)
  cases op with
  | none => exact ac (p := [.b true]) (by kernel_rfl) (aI hc trivial)
  | some op =>
   have hn : some (true != ((a : Int) == (op : Int))) = some (a != op) := by rw [bQ]; show some (true != (a == op)) = some !(a == op); cases (a == op) <;> rfl
   cases hz : a != op <;> rw [hz] at hn
   ·simp only [cond_true, hz, cond_false]
    exact ac (p := [.b true, .skip 2, .b false]) (by kernel_rfl) (aI hc (aI hn trivial))
   ·simp only [cond_true, hz]
    have hsl := lD (σ := (sR s (a, some op, res)).2) (a := a) (h1 op rfl) (Nat.le_trans hs (by decide))
    have hap : aq (O (k + 1)) .append [.lst (res.map .str)] (.ptr 0) [.str ((s.drop a).take (op - a))] = some (.none, [.lst ((res ++ [(s.drop a).take (op - a)]).map .str)]) := bw rfl (by rw [List.length_map]; lia) (by rw [List.map_append]; rfl)
    generalize (s.drop a).take (op - a) = sl at *
    exact ac (p := [.b true, .skip 2, .b true, .skip 1, .d (.str sl), .s (.none, [.lst ((res ++ [sl]).map .str)])]) (by kernel_rfl) (aI hc (aI hn (aI hsl (aI hap trivial))))
theorem ou (l : List (List Nat)) (x : List Nat) : ((l ++ [x]).map (·.length)).sum = (l.map (·.length)).sum + x.length := by simp
theorem pH (k : Nat) (s : List Nat) (σ : aa) (hs : s.length ≤ 900) : (O (k + 2)).fn (S "_strip_quoted_realnames") [.str s] σ = some (.str (bR s), σ) := by
 rw [dw (n := k + 1) (e := e3) (by kernel_rfl)]
 unfold bR
 cases he : s.contains 34
 ·exact aK (q := (.ret (.str s), [(S "addr", .str s)], [])) rfl rfl (ac (p := [.b true]) (g := some (true != s.contains 34) = some true ∧ True) (by kernel_rfl) ⟨by rw [he]; rfl, trivial⟩) rfl rfl
 ·rw [cond_true]
  have hok := jT (step := bW s) (ok := fun st _ => (∀ op, st.2.1 = some op → op ≤ s.length) ∧ st.2.2.length ≤ 1000) 900 (fun n st => st.1 ≤ s.length ∧ (∀ op, st.2.1 = some op → op ≤ s.length) ∧ st.2.2.length ≤ n ∧ (st.2.2.map (·.length)).sum ≤ n * 900) (fun q => q.1 < s.length) (fun n a x hn hI hP => ⟨⟨hI.2.1, by lia⟩, by
    obtain ⟨a, op, res⟩ := a
    unfold bW
    simp only at hI ⊢
    have hi : res.length ≤ n + 1 ∧ (res.map (·.length)).sum ≤ (n + 1) * 900 := ⟨by lia, by lia⟩
    cases x.2 == [34]
    ·exact ⟨hI.1, hI.2.1, hi.1, hi.2⟩
    ·cases op with
     | none => exact ⟨hI.1, (fun op h => by cases h; lia), hi.1, hi.2⟩
     | some op =>
      simp only [cond_true]
      refine ⟨by lia, (fun op h => by cases h), ?_⟩
      cases a != op
      ·exact hi
      ·simp only [cond_true, ou, List.length_append, List.length_singleton, List.length_take, List.length_drop]
       exact ⟨by lia, by lia⟩⟩)
   (xs := az 0 false s) (n := 0) (a := (0, none, [])) (by have := dG s 0 false; simp at this; lia) ⟨Nat.zero_le _, (fun op h => by cases h), Nat.le_refl _, Nat.le_refl _⟩ (kJ s 0 false s.length (by lia) (by cases s with
    | nil => exact eY he
    | cons c s => rw [List.length_cons]; lia) (fun h => by cases h))
  have hfor := cr jI (sR s) (bW s) _ (xG k s (by lia)) (az 0 false s) (0, none, []) hok.1
  have hlen : (az 0 false s).length ≤ 900 := by have := dG s 0 false; simp at this; lia
  have hI := hok.2
  generalize (az 0 false s).foldl (bW s) (0, none, []) = st at hfor hI ⊢
  obtain ⟨a, op, res⟩ := st
  rw [← ci] at hfor
  simp only [Nat.zero_add] at hI ⊢
  refine aK (q := (.ret (.str (bif Nat.blt a s.length then res ++ [s.drop a] else res).flatten), (sR s (a, op, res)).1, [.lst ((bif Nat.blt a s.length then res ++ [s.drop a] else res).map .str)])) rfl rfl ?_ rfl rfl
  refine aw 4 (ρ₁ := (sR s (0, none, [])).1) (σ₁ := (sR s (0, none, [])).2) (ac (p := [.b false]) (g := some (true != s.contains 34) = some false ∧ True) (by kernel_rfl) ⟨by rw [he]; rfl, trivial⟩) ?_
  refine bA (l := z1) (by kernel_rfl) (lk := none) (items := bm 0 false s) (σ₁ := (sR s (0, none, [])).2) (ac (p := []) (by kernel_rfl) trivial) hfor rfl ?_
  have hlt : (some (decide ((a : Int) < (s.length : Int))) : Option Bool) = some (Nat.blt a s.length) := by
   congr 1
   rw [Bool.eq_iff_iff, decide_eq_true_iff, Nat.blt_eq]; lia
  have hlen1 : ak (S "len") (sR s (a, op, res)).2 [.str s] = some (nI s.length) := oI (by lia)
  cases hb : Nat.blt a s.length <;> rw [hb] at hlt
  ·exact ac (p := [.d (nI s.length), .b false, .skip 0, .s (.str res.flatten, [.lst (res.map .str)])])
    (g := ak (S "len") (sR s (a, op, res)).2 [.str s] = some (nI s.length) ∧ (some (decide ((a : Int) < (s.length : Int))) : Option Bool) = some false ∧ aq (O (k + 1)) .join [.lst (res.map .str)] (.str []) [.ptr 0] = some (.str res.flatten, [.lst (res.map .str)]) ∧ True) (by kernel_rfl)
    ⟨hlen1, hlt, kO rfl (by lia), trivial⟩
  ·have hsl := rG (σ := (sR s (a, op, res)).2) hI.1 (Nat.le_trans hs (by decide))
   have hap : aq (O (k + 1)) .append [.lst (res.map .str)] (.ptr 0) [.str (s.drop a)] = some (.none, [.lst ((res ++ [s.drop a]).map .str)]) := bw rfl (by rw [List.length_map]; lia) (by rw [List.map_append]; rfl)
   have hjo : aq (O (k + 1)) .join [.lst ((res ++ [s.drop a]).map .str)] (.str []) [.ptr 0] = some (.str (res ++ [s.drop a]).flatten, [.lst ((res ++ [s.drop a]).map .str)]) := kO rfl (by rw [ou, List.length_drop]; lia)
   rw [cond_true]
   generalize s.drop a = sl at *
   exact ac (p := [.d (nI s.length), .b true, .skip 1, .d (.str sl), .s (.none, [.lst ((res ++ [sl]).map .str)]), .s (.str (res ++ [sl]).flatten, [.lst ((res ++ [sl]).map .str)])]) (by kernel_rfl) (aI hlen1 (aI hlt (aI hsl (aI hap (aI hjo trivial)))))
end
section
noncomputable abbrev zW : Stmt := bG 4
noncomputable abbrev p1 : List Stmt := (av zW).drop 2
noncomputable abbrev e4 : FE := ⟨59, zW, [S "addr"], 1, 0, []⟩
noncomputable def cR (s : List Nat) (n : Int) : aj × aa := ([(S "addr", .str s), (S "opens", .int n)], [])
noncomputable def vU : List (Nat × List Nat) → Int → Option Int
 | [], n => some n
 | q :: r, n => bif q.2 == [40] then vU r (n + 1) else bif q.2 == [41] then (bif decide (n - 1 < 0) then none else vU r (n - 1)) else vU r n
noncomputable def cb (s : List Nat) : Bool := match vU (az 0 false (bR s)) 0 with | some n => n == 0 | none => false
theorem gB (k : Nat) (s : List Nat) : ∀ (l : List (Nat × List Nat)) (n : Int), ∃ ρ', (cV (am zW) (ex (O (k + 1)) (am zW) 2000 99) (cx p1) (bN p1) (l.map jI) (cR s n).1 (cR s n).2).run = some (match vU l n with | some m => (.next, cR s m) | none => (.ret (.bool false), ρ', []))
 | [], n => ⟨[], rfl⟩
 | (p, ch) :: r, n => by
  unfold vU
  rw [List.map_cons]
  cases he : ch == [40]
  ·cases hf : ch == [41]
   ·rw [au (ac (p := [.b false, .skip 0, .b false]) (a := (.next, (cR s n).1, (cR s n).2)) (by kernel_rfl) (aI (congrArg some ((bv _).trans he)) (aI (congrArg some ((bv _).trans hf)) trivial)))]
    simp only [cond_false]
    exact gB k s r n
   ·cases hz : decide (n - 1 < 0)
    ·rw [au (ac (p := [.b false, .skip 0, .b true, .skip 1, .b false]) (a := (.next, (cR s (n - 1)).1, (cR s (n - 1)).2)) (by kernel_rfl) (aI (congrArg some ((bv _).trans he)) (aI (congrArg some ((bv _).trans hf)) (aI (congrArg some hz) trivial))))]
     simp only [cond_false, cond_true]
     exact gB k s r (n - 1)
    ·refine ⟨[(S "addr", .str s), (S "opens", .int (n - 1)), (S "pos", nI p), (S "ch", .str ch)], ?_⟩
     rw [au (ac (p := [.b false, .skip 0, .b true, .skip 1, .b true]) (a := (.ret (.bool false), [(S "addr", .str s), (S "opens", .int (n - 1)), (S "pos", nI p), (S "ch", .str ch)], [])) (by kernel_rfl) (aI (congrArg some ((bv _).trans he)) (aI (congrArg some ((bv _).trans hf)) (aI (congrArg some hz) trivial))))]
     simp only [cond_false, cond_true]
  ·rw [au (ac (p := [.b true]) (a := (.next, (cR s (n + 1)).1, (cR s (n + 1)).2)) (by kernel_rfl) (aI (congrArg some ((bv _).trans he)) trivial))]
   simp only [cond_true]
   exact gB k s r (n + 1)
theorem vY (k : Nat) (s : List Nat) (σ : aa) (hs : s.length ≤ 900) : (O (k + 3)).fn (S "_check_parenthesis") [.str s] σ = some (.bool (cb s), σ) := by
 rw [dw (n := k + 2) (e := e4) (by kernel_rfl)]
 obtain ⟨ρ', hl⟩ := gB (k + 1) (bR s) (az 0 false (bR s)) 0
 rw [← ci] at hl
 have h0 : (ba (ex (O (k + 2)) (am zW) 2000 100) ((av zW).take 2) (aS [] [(S "addr", .str s)]) []).run = some (.next, (cR (bR s) 0).1, (cR (bR s) 0).2) :=
  ac (p := [.s (.str (bR s), [])]) (by kernel_rfl) (aI (pH k s [] hs) trivial)
 unfold cb
 cases hc : vU (az 0 false (bR s)) 0 with
 | none =>
  rw [hc] at hl
  exact aK (q := (.ret (.bool false), ρ', [])) rfl rfl (aw 2 h0 (mt (l := p1) (by kernel_rfl) (lk := none) (items := bm 0 false (bR s)) (σ₁ := []) (ac (p := []) (by kernel_rfl) trivial) hl rfl)) rfl rfl
 | some m =>
  rw [hc] at hl
  refine aK (q := (.ret (.bool (false != (m == 0))), (cR (bR s) m).1, [])) rfl rfl (aw 2 h0 (bA (l := p1) (by kernel_rfl) (lk := none) (items := bm 0 false (bR s)) (σ₁ := []) (ac (p := []) (by kernel_rfl) trivial) hl rfl ?_)) (by rw [bv]; rfl) rfl
  exact ac (p := []) (by kernel_rfl) trivial
noncomputable abbrev pV : Stmt := bG 68
noncomputable abbrev v1 : List Stmt := (av pV).drop 1
noncomputable abbrev HE : FE := ⟨296, pV, [S "text"], 1, 0, []⟩
noncomputable def uQ (s r : List Nat) : aj × aa := ([(S "text", .str s), (S "row", .str r)], [])
theorem ln {σ : aa} {x y : List Nat} (h : x.length + y.length ≤ 100000) : aB .Add σ (.str x) (.str y) = some (.str (x ++ y)) := by
 show (fM (.str x) (.str y)).or _ = _
 unfold fM
 simp only [fS, Option.bind_some]
 rw [decide_eq_true (Nat.le_trans h (by decide))]
 rfl
theorem mJ {x y : List Nat} (h : x.length + y.length ≤ 100000) : pJ .Add (.str x) (.str y) = some (.str (x ++ y)) := by
 show (fM (.str x) (.str y)) = _
 unfold fM
 simp only [fS, Option.bind_some]
 rw [decide_eq_true (Nat.le_trans h (by decide))]
 rfl
theorem mU (k : Nat) (s r sg : List Nat) (p : Nat) (h : r.length + sg.length = p + 1) (hb : p < 10000) :
  (turn (am pV) (ex (O (k + 1)) (am pV) 2000 99) (cx v1) (bN v1) (jI (p, sg)) (uQ s r).1 (uQ s r).2).run = some (.next, (uQ s (r ++ sg)).1, (uQ s (r ++ sg)).2) := by
 have h1 := mJ (x := r) (y := sg) (by lia)
 have h2 : ak (S "len") [] [.str (r ++ sg)] = some (nI (r ++ sg).length) := oI (by rw [List.length_append]; lia)
 have h3 : some (true != ((p : Int) == ((r ++ sg).length : Int) - 1)) = some false := by
  rw [show ((r ++ sg).length : Int) - 1 = (p : Int) by rw [List.length_append]; lia, beq_self_eq_true]; rfl
 generalize r ++ sg = r2 at *
 exact ac (p := [.d (.str r2), .d (nI r2.length), .skip 0, .b false]) (by kernel_rfl) (aI h1 (aI h2 (aI h3 trivial)))
theorem kj (k : Nat) (t : List Nat) : ∀ (s : List Nat) (p : Nat) (b : Bool) (r : List Nat), r.length + (if b then 1 else 0) = p → p + s.length < 10000 →
  (cV (am pV) (ex (O (k + 1)) (am pV) 2000 99) (cx v1) (bN v1) ((az p b s).map jI) (uQ t r).1 (uQ t r).2).run = some (.next, uQ t (r ++ (if b then [92] else []) ++ s))
 | [], p, true, r, h, hb => by
  simp only [if_true] at h
  show (cV _ _ _ _ [jI (p - 1, [92])] _ _).run = _
  rw [au (mU k t r [92] (p - 1) (by simp only [List.length_singleton]; lia) (by lia))]
  simp only [if_true, List.append_nil]
  rfl
 | [], p, false, r, h, hb => by simp only [Bool.false_eq_true, if_false, List.append_nil]; rfl
 | c :: s, p, true, r, h, hb => by
  simp only [if_true] at h
  rw [List.length_cons] at hb
  show (cV _ _ _ _ (jI (p, [92, c]) :: (az (p + 1) false s).map jI) _ _).run = _
  rw [au (mU k t r [92, c] p (by simp only [List.length_cons, List.length_nil]; lia) (by lia))]
  simp only
  rw [kj k t s (p + 1) false (r ++ [92, c]) (by simp only [List.length_append, List.length_cons, List.length_nil, Bool.false_eq_true, if_false]; lia) (by lia)]
  simp
 | c :: s, p, false, r, h, hb => by
  simp only [Bool.false_eq_true, if_false] at h
  rw [List.length_cons] at hb
  unfold az
  cases hc : c == 92
  ·simp only [Bool.false_eq_true, if_false, List.map_cons]
   rw [au (mU k t r [c] p (by simp only [List.length_cons, List.length_nil]; lia) (by lia))]
   simp only
   rw [kj k t s (p + 1) false (r ++ [c]) (by simp only [List.length_append, List.length_cons, List.length_nil, Bool.false_eq_true, if_false]; lia) (by lia)]
   simp
  ·simp only [if_true]
   rw [kj k t s (p + 1) true r (by simp only [if_true]; lia) (by lia), eq_of_beq hc]
   simp
theorem to (k : Nat) (s : List Nat) (σ : aa) (hs : s.length ≤ 900) : (O (k + 2)).fn (S "_law_places") [.str s] σ = some (.bool true, σ) := by
 rw [dw (n := k + 1) (e := HE) (by kernel_rfl)]
 have hl := kj k s s 0 false [] rfl (by lia)
 rw [← ci] at hl
 refine aK (q := (.ret (.bool true), (uQ s s).1, [])) rfl rfl (aw 1 (ρ₁ := (uQ s []).1) (σ₁ := []) (ac (p := []) (by kernel_rfl) trivial) (bA (l := v1) (by kernel_rfl) (lk := none) (items := bm 0 false s) (σ₁ := []) (ac (p := []) (by kernel_rfl) trivial) hl rfl ?_)) rfl rfl
 exact ac (p := [.b true]) (g := some (false != (s == s)) = some true ∧ True) (by kernel_rfl) ⟨by rw [bv, beq_self_eq_true], trivial⟩
end
section
noncomputable abbrev gQ : Stmt := bG 69
noncomputable abbrev u1 : List Stmt := (av gQ).drop 2
noncomputable abbrev HD : FE := ⟨301, gQ, [S "text"], 1, 0, []⟩
noncomputable def df (w : List Nat) : Bool := (tab0.lookup w).isSome
noncomputable def dq (w : List Nat) : D := (tab0.lookup w).getD (.int 256)
noncomputable def cA (w : List Nat) : D := .tup [dq w, .str w]
noncomputable def cU : List (List Nat) → List (List Nat)
 | [] => []
 | [_] => []
 | a :: b :: r => if df (a ++ b) then (a ++ b) :: cU r else a :: cU (b :: r)
noncomputable def s8 (s : List Nat) : List (List Nat) := cU ((az 0 false s).map Prod.snd ++ [[]])
noncomputable def kR (t : List Nat) (ss : List (List Nat)) (k : Int) (cu : List D) : aj × aa := ([(S "text", .str t), (S "signs", .lst (ss.map .str)), (S "cut", .ptr 0), (S "k", .int k)], [.lst cu])
theorem xi (k : Nat) (t : List Nat) (ss : List (List Nat)) (j : Nat) (cu : List D) (x y : List Nat) (hx : ss[j]? = some x) (hy : ss[j + 1]? = some y) (hl : ss.length ≤ 1000) (h1 : x.length + y.length ≤ 100000) (h2 : cu.length ≤ 100000) :
  ∃ ρ', (ba (ex (O (k + 1)) (am gQ) 2000 99) (bN u1) (kR t ss j cu).1 (kR t ss j cu).2).run = some (.next, ρ', (kR t ss (if df (x ++ y) then (j : Int) + 2 else (j : Int) + 1) (cu ++ [cA (if df (x ++ y) then x ++ y else x)])).2) ∧
   ρ'.take 4 = (kR t ss (if df (x ++ y) then (j : Int) + 2 else (j : Int) + 1) (cu ++ [cA (if df (x ++ y) then x ++ y else x)])).1 := by
 have hj : j + 1 < ss.length := (List.getElem?_eq_some_iff.mp hy).1
 have e1 : ∀ σ, al (O (k + 1)) σ (.lst (ss.map .str)) (nI j) = some (.str x) := fun σ => bZ (l := ss.map .str) rfl (by rw [List.getElem?_map, hx]; rfl) (by lia)
 have e2 : al (O (k + 1)) [.lst cu] (.lst (ss.map .str)) (.int ((j : Int) + 1)) = some (.str y) := bZ (i := j + 1) (l := ss.map .str) rfl (by rw [List.getElem?_map, hy]; rfl) (by lia)
 have e3 := ln (σ := [.lst cu]) h1
 have e4 : ∀ w, aq (O (k + 1)) .get [.lst cu] (.base 126) [.str w, .int 256] = some (dq w, [.lst cu]) := fun w => by delta aq; rfl
 have e5 : ∀ w, aq (O (k + 1)) .append [.lst cu] (.ptr 0) [.tup [dq w, .str w]] = some (.none, [.lst (cu ++ [cA w])]) := fun w => bw rfl h2 rfl
 generalize hz : x ++ y = z at *
 cases ht : df z
 ·simp only [Bool.false_eq_true, if_false]
  refine ⟨[(S "text", .str t), (S "signs", .lst (ss.map .str)), (S "cut", .ptr 0), (S "k", .int ((j : Int) + 2 - 1)), (S "word", .str x)], ?_, by show (kR t ss ((j : Int) + 2 - 1) cu).1 = (kR t ss ((j : Int) + 1) cu).1; rw [show (j : Int) + 2 - 1 = j + 1 by lia]⟩
  refine ac (p := [.d (.str x), .skip 0, .d (.str y), .d (.str z), .skip 0, .b true, .skip 2, .d (.str x), .skip 0, .s (dq x, [.lst cu]), .s (.none, [.lst (cu ++ [cA x])])])
   (g := al (O (k + 1)) [.lst cu] (.lst (ss.map .str)) (nI j) = some (.str x) ∧ al (O (k + 1)) [.lst cu] (.lst (ss.map .str)) (.int ((j : Int) + 1)) = some (.str y) ∧ aB .Add [.lst cu] (.str x) (.str y) = some (.str z) ∧ some (!(tab0.lookup z).isSome) = some true ∧ al (O (k + 1)) [.lst cu] (.lst (ss.map .str)) (.int ((j : Int) + 2 - 1 - 1)) = some (.str x) ∧
    aq (O (k + 1)) .get [.lst cu] (.base 126) [.str x, .int 256] = some (dq x, [.lst cu]) ∧ aq (O (k + 1)) .append [.lst cu] (.ptr 0) [.tup [dq x, .str x]] = some (.none, [.lst (cu ++ [cA x])]) ∧ True) (by kernel_rfl) ⟨e1 _, e2, e3, ?_, ?_, e4 x, e5 x, trivial⟩
  ·delta df at ht; rw [ht]; rfl
  ·rw [show (j : Int) + 2 - 1 - 1 = (j : Int) by lia]; exact e1 _
 ·simp only [if_true]
  refine ⟨[(S "text", .str t), (S "signs", .lst (ss.map .str)), (S "cut", .ptr 0), (S "k", .int ((j : Int) + 2)), (S "word", .str z)], ?_, rfl⟩
  refine ac (p := [.d (.str x), .skip 0, .d (.str y), .d (.str z), .skip 0, .b false, .skip 1, .s (dq z, [.lst cu]), .s (.none, [.lst (cu ++ [cA z])])])
   (g := al (O (k + 1)) [.lst cu] (.lst (ss.map .str)) (nI j) = some (.str x) ∧ al (O (k + 1)) [.lst cu] (.lst (ss.map .str)) (.int ((j : Int) + 1)) = some (.str y) ∧ aB .Add [.lst cu] (.str x) (.str y) = some (.str z) ∧ some (!(tab0.lookup z).isSome) = some false ∧
    aq (O (k + 1)) .get [.lst cu] (.base 126) [.str z, .int 256] = some (dq z, [.lst cu]) ∧ aq (O (k + 1)) .append [.lst cu] (.ptr 0) [.tup [dq z, .str z]] = some (.none, [.lst (cu ++ [cA z])]) ∧ True) (by kernel_rfl) ⟨e1 _, e2, e3, ?_, e4 z, e5 z, trivial⟩
  delta df at ht; rw [ht]; rfl
theorem fo {tr : fN} {ex' : mQ} {t : Expr} {b : List Stmt} {m : Nat} {ρ ρ₁ : aj} {σ σ₁ σ₂ : aa} (h1 : (tr t ρ σ).run = some (true, σ₁)) (h2 : (ba ex' b ρ σ₁).run = some (.next, ρ₁, σ₂)) : (cz tr ex' t b (m + 1) ρ σ).run = (cz tr ex' t b m (ρ₁.take ρ.length) σ₂).run := by
 show ((tr t ρ σ).bind _).run = _
 rw [T.run_bind, h1]
 show ((ba ex' b ρ σ₁).bind _).run = _
 rw [T.run_bind, h2]
 rfl
theorem cG {tr : fN} {ex' : mQ} {t : Expr} {b : List Stmt} {m : Nat} {ρ : aj} {σ σ₁ : aa} (h1 : (tr t ρ σ).run = some (false, σ₁)) : (cz tr ex' t b (m + 1) ρ σ).run = some (.next, ρ, σ₁) := by
 show ((tr t ρ σ).bind _).run = _
 rw [T.run_bind, h1]
 rfl
theorem rc (k : Nat) (t : List Nat) (ss : List (List Nat)) (j : Nat) (cu : List D) (hl : ss.length ≤ 1000) : ((aD (O (k + 1)) 99 (am gQ)).2 (cx u1) (kR t ss j cu).1 (kR t ss j cu).2).run = some (decide (j + 1 < ss.length), (kR t ss j cu).2) := by
 have e1 : ak (S "len") [.lst cu] [.lst (ss.map .str)] = some (nI ss.length) := by
  show (((gd (decide ((ss.map D.str).length ≤ cC))).map fun _ => D.int (ss.map D.str).length)) = _
  rw [List.length_map, decide_eq_true (Nat.le_trans hl (by decide))]
  rfl
 have e2 : some (decide ((j : Int) + 1 < (ss.length : Int))) = some (decide (j + 1 < ss.length)) := by congr 1; rw [decide_eq_decide]; lia
 generalize decide (j + 1 < ss.length) = c at *
 cases c <;> first
  | exact ac (p := [.skip 0, .d (nI ss.length), .b true]) (g := ak (S "len") [.lst cu] [.lst (ss.map .str)] = some (nI ss.length) ∧ some (decide ((j : Int) + 1 < (ss.length : Int))) = some true ∧ True) (by kernel_rfl) ⟨e1, e2, trivial⟩
  | exact ac (p := [.skip 0, .d (nI ss.length), .b false]) (g := ak (S "len") [.lst cu] [.lst (ss.map .str)] = some (nI ss.length) ∧ some (decide ((j : Int) + 1 < (ss.length : Int))) = some false ∧ True) (by kernel_rfl) ⟨e1, e2, trivial⟩
theorem rf (k : Nat) (t : List Nat) (ss : List (List Nat)) (hl : ss.length ≤ 1000) (m j : Nat) (cu : List D) (hlt : ¬j + 1 < ss.length) : ∃ j' : Int,
  (cz (aD (O (k + 1)) 99 (am gQ)).2 (ex (O (k + 1)) (am gQ) 2000 99) (cx u1) (bN u1) (m + 1) (kR t ss j cu).1 (kR t ss j cu).2).run = some (.next, (kR t ss j' (cu ++ (cU (ss.drop j)).map cA)).1, (kR t ss j' (cu ++ (cU (ss.drop j)).map cA)).2) := by
 have ht := rc k t ss j cu hl
 rw [decide_eq_false hlt] at ht
 refine ⟨j, ?_⟩
 rw [cG ht]
 have : cU (ss.drop j) = [] := by
  have hl2 : (ss.drop j).length ≤ 1 := by rw [List.length_drop]; lia
  generalize ss.drop j = l at hl2
  cases l with
  | nil => rfl
  | cons x l => rw [List.length_eq_zero_iff.mp (Nat.le_zero.mp (Nat.le_of_succ_le_succ hl2))]; rfl
 rw [this, List.map_nil, List.append_nil]
theorem xh (k : Nat) (t : List Nat) (ss : List (List Nat)) (hl : ss.length ≤ 1000) (hs : ∀ x ∈ ss, x.length ≤ 1000) : ∀ (m j : Nat) (cu : List D), ss.length ≤ m + j → j ≤ ss.length → cu.length ≤ j → ∃ j' : Int,
  (cz (aD (O (k + 1)) 99 (am gQ)).2 (ex (O (k + 1)) (am gQ) 2000 99) (cx u1) (bN u1) (m + 1) (kR t ss j cu).1 (kR t ss j cu).2).run = some (.next, (kR t ss j' (cu ++ (cU (ss.drop j)).map cA)).1, (kR t ss j' (cu ++ (cU (ss.drop j)).map cA)).2) := by
 intro m
 induction m with
 | zero => exact fun j cu hm hj hc => rf k t ss hl 0 j cu (by lia)
 | succ m ih =>
  intro j cu hm hj hc
  by_cases hlt : j + 1 < ss.length
  ·have ht := rc k t ss j cu hl
   rw [decide_eq_true hlt] at ht
   obtain ⟨x, hx⟩ : ∃ x, ss[j]? = some x := ⟨_, List.getElem?_eq_getElem (by lia)⟩
   obtain ⟨y, hy⟩ : ∃ y, ss[j + 1]? = some y := ⟨_, List.getElem?_eq_getElem hlt⟩
   have hdr : ss.drop j = x :: y :: ss.drop (j + 2) := by
    rw [List.drop_eq_getElem_cons (by lia), List.drop_eq_getElem_cons hlt]
    rw [List.getElem?_eq_getElem (by lia)] at hx hy
    rw [Option.some.inj hx, Option.some.inj hy]
   have hdr1 : ss.drop (j + 1) = y :: ss.drop (j + 2) := by
    rw [List.drop_eq_getElem_cons hlt]
    rw [List.getElem?_eq_getElem (by lia)] at hy
    rw [Option.some.inj hy]
   obtain ⟨ρ', h1, h2⟩ := xi k t ss j cu x y hx hy hl (by have := hs x (List.mem_of_getElem? hx); have := hs y (List.mem_of_getElem? hy); lia) (by lia)
   rw [fo ht h1, show (kR t ss j cu).1.length = 4 from rfl, h2, hdr]
   unfold cU
   cases df (x ++ y)
   ·simp only [Bool.false_eq_true, if_false]
    obtain ⟨j', ih⟩ := ih (j + 1) (cu ++ [cA x]) (by lia) (by lia) (by rw [List.length_append, List.length_singleton]; lia)
    refine ⟨j', ?_⟩
    rw [hdr1, show ((j + 1 : Nat) : Int) = (j : Int) + 1 from rfl] at ih
    rw [List.map_cons, List.append_cons _ _ (List.map _ _)]
    exact ih
   ·simp only [if_true]
    obtain ⟨j', ih⟩ := ih (j + 2) (cu ++ [cA (x ++ y)]) (by lia) (by lia) (by rw [List.length_append, List.length_singleton]; lia)
    refine ⟨j', ?_⟩
    rw [show ((j + 2 : Nat) : Int) = (j : Int) + 2 from rfl] at ih
    rw [List.map_cons, List.append_cons _ _ (List.map _ _)]
    exact ih
  ·exact rf k t ss hl (m + 1) j cu hlt
noncomputable abbrev uE : Expr := rZ (oG (fH (av gQ))) [0]
theorem ri (w : List Nat) : ∃ n : Int, dq w = .int n := by
 delta dq
 cases h : tab0.lookup w with
 | none => exact ⟨256, rfl⟩
 | some d =>
  obtain ⟨p, _, h2⟩ := List.mem_map.mp (aG h)
  exact ⟨p.2, by rw [Option.getD_some]; exact (Prod.mk.inj h2).2.symm⟩
theorem Hg (w : List Nat) : iv (cA w) = true := by
 obtain ⟨n, h⟩ := ri w
 delta cA
 rw [h]
 rfl
theorem uY {a b : List D} (h1 : dO a = true) (h2 : dO b = true) : dO (a ++ b) = true := by
 induction a with
 | nil => exact h2
 | cons x a ih =>
  have h1 := Bool.and_eq_true_iff.mp h1
  refine Bool.and_eq_true_iff.mpr ?_
  exact ⟨h1.1, ih h1.2⟩
theorem jl : ∀ l : List (List Nat), (cU l).length ≤ l.length
 | [] => Nat.le_refl _
 | [_] => Nat.zero_le _
 | a :: b :: r => by
  unfold cU
  split
  ·have := jl r
   simp only [List.length_cons]; lia
  ·have := jl (b :: r)
   simp only [List.length_cons] at this ⊢; lia
theorem kI : ∀ (s : List Nat) (p : Nat) (b : Bool), ∀ q ∈ az p b s, q.2.length ≤ 2
 | [], p, true, q, h => by rw [List.mem_singleton.mp h]; exact Nat.le_succ 1
 | [], p, false, q, h => by cases h
 | c :: r, p, true, q, h => by
  rcases List.mem_cons.mp h with rfl | h
  ·exact Nat.le_refl _
  ·exact kI r _ _ q h
 | c :: r, p, false, q, h => by
  unfold az at h
  split at h
  ·exact kI r _ _ q h
  ·rcases List.mem_cons.mp h with rfl | h
   ·exact Nat.le_succ 1
   ·exact kI r _ _ q h
theorem Bb (k : Nat) (s : List Nat) (m n : List D) (h1 : (cX (O (k + 1)) (am gQ) 97 uE [(S "text", .str s)] []).run = some (.lst m, [])) (h2 : aB .Add [] (.lst m) (.lst [.str []]) = some (.lst n)) :
  (ba (ex (O (k + 1)) (am gQ) 2000 100) ((av gQ).take 2) (aS [] [(S "text", .str s)]) []).run = some (.next, [(S "text", .str s), (S "signs", .lst n), (S "cut", .ptr 0), (S "k", .int 0)], [.lst []]) :=
 ac (p := [.s (.lst m, []), .d (.lst n)]) (by kernel_rfl) (aI h1 (aI h2 trivial))
theorem gK {σ : aa} {a b : D} {l r : List D} (h1 : aF σ a = some l) (h2 : aF σ b = some r) (h : l.length + r.length ≤ 100000) (h3 : aC a = none) (h4 : aV a = none) : aB .Add σ a b = some (.lst (l ++ r)) := by
 delta aB fM tF
 rw [h3, h4, h1, h2]
 simp only [Option.bind_some, Option.bind_none, Option.none_or]
 rw [show (gd (j7 Operator.Add)) = some () from rfl]
 simp only [Option.bind_some, Option.none_or]
 rw [decide_eq_true (Nat.le_trans h (by decide))]
 rfl
theorem DV (k : Nat) (s : List Nat) (σ : aa) (hs : s.length ≤ 900) : (O (k + 2)).fn (S "_law_cut") [.str s] σ = some (.lst ((s8 s).map cA ++ [.tup [.int 0, .str []]]), σ) := by
 rw [dw (n := k + 1) (e := HD) (by kernel_rfl)]
 have hc := aM (o := O (k + 1)) (f := am gQ) (n := 97) (e := uE) (lk := none) (ρ := [(S "text", .str s)]) (σ₁ := []) (σ := []) (σ₂ := []) jI (fun q => some (.str q.2)) (az 0 false s) (by kernel_rfl) (by rw [← ci]; exact ac (p := []) (by kernel_rfl) trivial) (by have := dG s 0 false; simp at this; exact Nat.le_trans (Nat.le_trans this hs) (by decide)) (fun q _ => ac (p := []) (by kernel_rfl) trivial) rfl
 rw [List.filterMap_eq_map'] at hc
 have hlen : ((az 0 false s).map Prod.snd ++ [[]]).length ≤ 1000 := by
  have := dG s 0 false
  simp at this ⊢
  lia
 have had : aB .Add [] (.lst ((az 0 false s).map fun q => .str q.2)) (.lst [.str []]) = some (.lst (((az 0 false s).map Prod.snd ++ [[]]).map .str)) := by
  rw [gK (l := (az 0 false s).map fun q => .str q.2) (r := [.str []]) rfl rfl (by rw [List.length_append, List.length_map] at hlen; rw [List.length_map]; exact Nat.le_trans hlen (by decide)) rfl rfl, List.map_append, List.map_map]
  rfl
 have hsz : ∀ x ∈ (az 0 false s).map Prod.snd ++ [[]], x.length ≤ 1000 := fun x hx => by
  rcases List.mem_append.mp hx with hx | hx
  ·obtain ⟨q, h1, rfl⟩ := List.mem_map.mp hx
   exact Nat.le_trans (kI s 0 false q h1) (by decide)
  ·rw [List.mem_singleton.mp hx]; exact Nat.zero_le _
 delta s8
 generalize hss : (az 0 false s).map Prod.snd ++ [[]] = ss at *
 obtain ⟨j', hw⟩ := xh k s ss hlen hsz 1999 0 [] (by lia) (Nat.zero_le _) (Nat.le_refl _)
 rw [List.drop_zero, List.nil_append] at hw
 have hcl : ((cU ss).map cA).length ≤ 1000 := by rw [List.length_map]; exact Nat.le_trans (jl ss) hlen
 have hfin : aB .Add [.lst ((cU ss).map cA)] (.ptr 0) (.lst [.tup [.int 0, .str []]]) = some (.lst ((cU ss).map cA ++ [.tup [.int 0, .str []]])) := gK rfl rfl (Nat.le_trans (Nat.add_le_add_right hcl 1) (by decide)) rfl rfl
 have hpf : dO ((cU ss).map cA ++ [.tup [.int 0, .str []]]) = true := uY (bj (fun x => Hg x) _) rfl
 generalize (cU ss).map cA = cu at *
 refine aK (q := (.ret (.lst (cu ++ [.tup [.int 0, .str []]])), (kR s ss j' cu).1, [.lst cu])) rfl rfl ?_ rfl (by simp only [eU, eO, fC, eN, eT, eQ]; exact hpf)
 refine aw 2 (Bb k s _ _ hc had) ?_
 refine g7 (l := u1) (by kernel_rfl) hw ?_
 exact ac (p := [.d (.lst (cu ++ [.tup [.int 0, .str []]]))]) (by kernel_rfl) (aI hfin trivial)
end
section
noncomputable abbrev WS := Nat × Nat × Nat × List Nat
noncomputable def ni (cs : List Nat) (b : Nat) : List Nat := if cs.length ≤ b then cs ++ List.replicate (b - cs.length + 1) 0 else cs
noncomputable def ij (cs : List Nat) (b : Nat) : List Nat := (ni cs b).set b ((ni cs b).getD b 0 + 1)
noncomputable def ik : List Nat → WS → WS
 | [], st => st
 | c :: r, st => if c == 32 then ik r (st.1 + 1, st.2.1 + 1, st.2.2.1, st.2.2.2) else if c == 9 then ik r (0, st.2.1 + 1, st.2.2.1 + 1, ij st.2.2.2 st.1) else st
noncomputable def aE (s : List Nat) : WS := ik s (0, 0, 0, [])
noncomputable def cc (ts : Nat) : Nat → List Nat → Nat
 | _, [] => 0
 | i, c :: cs => i / ts * c + cc ts (i + 1) cs
noncomputable def gN (ts : Nat) (st : WS) : Nat := st.1 + ts * (cc ts 0 st.2.2.2 + st.2.2.1)
noncomputable def cf (ts : Nat) : Nat → List Nat → Nat
 | b, [] => b
 | b, c :: r => if c == 32 then cf ts (b + 1) r else if c == 9 then (b / ts + 1) * ts + cf ts 0 r else b
theorem lu (ts : Nat) : ∀ (a b : List Nat) (i : Nat), cc ts i (a ++ b) = cc ts i a + cc ts (i + a.length) b
 | [], b, i => by simp [cc]
 | x :: a, b, i => by
  simp only [List.cons_append, cc, List.length_cons]
  rw [lu ts a b (i + 1), show i + 1 + a.length = i + (a.length + 1) by lia]; lia
theorem jK (ts : Nat) : ∀ (n i : Nat), cc ts i (List.replicate n 0) = 0
 | 0, i => rfl
 | n + 1, i => by simp only [List.replicate_succ, cc, jK ts n, Nat.mul_zero]
theorem ls (ts : Nat) : ∀ (a : List Nat) (i k : Nat), k < a.length → cc ts i (a.set k (a.getD k 0 + 1)) = cc ts i a + (i + k) / ts
 | x :: a, i, 0, h => by simp [cc, Nat.mul_add]; lia
 | x :: a, i, k + 1, h => by
  simp only [List.set_cons_succ, cc, List.getD_cons_succ]
  rw [ls ts a (i + 1) k (by simpa using h), show i + 1 + k = i + (k + 1) by lia]; lia
theorem rS (cs : List Nat) (b : Nat) : b < (ni cs b).length := by
 unfold ni
 split
 ·rw [List.length_append, List.length_replicate]; lia
 ·lia
theorem pP (ts : Nat) (cs : List Nat) (b : Nat) : cc ts 0 (ij cs b) = cc ts 0 cs + b / ts := by
 unfold ij
 rw [ls ts _ 0 b (rS cs b), Nat.zero_add]
 congr 1
 unfold ni
 split
 ·rw [lu, jK]; rfl
 ·rfl
theorem nu (ts : Nat) : ∀ (s : List Nat) (st : WS), gN ts (ik s st) + st.1 = gN ts st + cf ts st.1 s
 | [], st => rfl
 | c :: r, st => by
  obtain ⟨b, n, nt, cs⟩ := st
  unfold ik cf
  simp only
  split
  ·have h := nu ts r (b + 1, n + 1, nt, cs)
   simp only [gN] at h ⊢
   lia
  ·split
   ·have h := nu ts r (0, n + 1, nt + 1, ij cs b)
    simp only [gN, pP] at h ⊢
    have e : ts * (cc ts 0 cs + b / ts + (nt + 1)) = ts * (cc ts 0 cs + nt) + (b / ts + 1) * ts := by
     rw [Nat.mul_comm (b / ts + 1), ← Nat.mul_add]; congr 1; lia
    lia
   ·rfl
theorem d8 (ts : Nat) (s : List Nat) : gN ts (aE s) = cf ts 0 s := by
 have h := nu ts s (0, 0, 0, [])
 simp only [gN, cc] at h ⊢
 unfold aE
 lia
noncomputable def Bl (s : List Nat) : Prop := ∀ c ∈ s, c = 32 ∨ c = 9
theorem Bl.app {a b : List Nat} (h : Bl a) (h' : Bl b) : Bl (a ++ b) := fun c hc => (List.mem_append.mp hc).elim (h c) (h' c)
theorem Bl.tail {c : Nat} {s : List Nat} (h : Bl (c :: s)) : Bl s := fun x hx => h x (List.mem_cons_of_mem _ hx)
noncomputable def lT (w : List Nat) : Bool := match w with | [] => true | c :: _ => !(c == 32) && !(c == 9)
theorem gk (ts : Nat) {w : List Nat} (hw : lT w = true) : ∀ (s : List Nat) (b : Nat), Bl s → cf ts b (s ++ w) = cf ts b s
 | [], b, _ => by
  cases w with
  | nil => rfl
  | cons c w =>
   simp only [lT, Bool.and_eq_true, Bool.not_eq_true'] at hw
   simp only [List.nil_append, cf, hw.1, hw.2]
   rfl
 | c :: s, b, h => by
  simp only [List.cons_append, cf]
  rw [gk ts hw s _ h.tail, gk ts hw s _ h.tail]
theorem sp (ts : Nat) (h0 : 0 < ts) : ∀ (s : List Nat) (b : Nat), b ≤ cf ts b s
 | [], b => Nat.le_refl _
 | c :: s, b => by
  unfold cf
  split
  ·exact Nat.le_trans (Nat.le_succ b) (sp ts h0 s _)
  ·split
   ·have : b < (b / ts + 1) * ts := by rw [Nat.mul_comm]; exact Nat.lt_mul_div_succ b h0
    lia
   ·exact Nat.le_refl _
theorem yT (ts : Nat) (h0 : 0 < ts) {s : List Nat} (h : Bl s) (hs : s ≠ []) (b : Nat) : b < cf ts b s := by
 cases s with
 | nil => exact absurd rfl hs
 | cons c s =>
  unfold cf
  clear hs; rcases h c (List.mem_cons_self ..) with rfl | rfl
  ·exact Nat.lt_of_lt_of_le (Nat.lt_succ_self b) (sp ts h0 s _)
  ·simp only [show (9 == 32) = false from rfl, show (9 == 9) = true from rfl, Bool.false_eq_true, if_false, if_true]
   have : b < (b / ts + 1) * ts := by rw [Nat.mul_comm]; exact Nat.lt_mul_div_succ b h0
   lia
theorem kM (ts : Nat) (h0 : 0 < ts) {e : List Nat} (he : Bl e) (hne : e ≠ []) : ∀ (s : List Nat) (b : Nat), Bl s → cf ts b s < cf ts b (s ++ e)
 | [], b, _ => yT ts h0 he hne b
 | c :: s, b, h => by
  simp only [List.cons_append, cf]
  split
  ·exact kM ts h0 he hne s _ h.tail
  ·split
   ·exact Nat.add_lt_add_left (kM ts h0 he hne s _ h.tail) _
   ·rename_i h1 h2
    rcases h c (List.mem_cons_self ..) with rfl | rfl
    ·exact absurd rfl h1
    ·exact absurd rfl h2
noncomputable def bz : List (List Nat) → List Nat
 | [] => []
 | [x] => x
 | x :: y :: r => x ++ 9 :: bz (y :: r)
theorem kK (ts : Nat) : ∀ (x r : List Nat) (b : Nat), (∀ c ∈ x, c = 32) → cf ts b (x ++ r) = cf ts (b + x.length) r
 | [], r, b, _ => rfl
 | c :: x, r, b, h => by
  rw [h c (List.mem_cons_self ..)]
  simp only [List.cons_append, cf, beq_self_eq_true, if_true]
  rw [kK ts x r (b + 1) fun c hc => h c (List.mem_cons_of_mem _ hc), List.length_cons, show b + 1 + x.length = b + (x.length + 1) by lia]
theorem jc (ts : Nat) : ∀ (rs : List (List Nat)) (l : List Nat), (∀ x ∈ rs ++ [l], ∀ c ∈ x, c = 32) → cf ts 0 (bz (rs ++ [l])) = (rs.map fun x => (x.length / ts + 1) * ts).sum + l.length
 | [], l, h => by
  have := kK ts l [] 0 (h l (by simp))
  rw [List.append_nil] at this
  simp only [List.nil_append, bz, this, cf, List.map_nil, List.sum_nil]
 | x :: rs, l, h => by
  have e : bz (x :: rs ++ [l]) = x ++ 9 :: bz (rs ++ [l]) := by cases rs <;> rfl
  rw [e, kK ts x _ 0 (h x (by simp))]
  unfold cf
  simp only [show (9 == 32) = false from rfl, show (9 == 9) = true from rfl, Bool.false_eq_true, if_false, if_true]
  rw [jc ts rs l fun y hy => h y (List.mem_cons_of_mem _ hy), List.map_cons, List.sum_cons, Nat.zero_add]; lia
theorem iq : ∀ l : List Nat, l.reverse.sum = l.sum
 | [] => rfl
 | x :: l => by rw [List.reverse_cons, List.sum_append, iq l, List.sum_cons, List.sum_cons, List.sum_nil]; lia
theorem sm (ts : Nat) (rs : List (List Nat)) (l : List Nat) (h : ∀ x ∈ rs ++ [l], ∀ c ∈ x, c = 32) : cf ts 0 (bz (rs.reverse ++ [l])) = cf ts 0 (bz (rs ++ [l])) := by
 rw [jc ts rs l h, jc ts rs.reverse l (fun x hx => h x (by simpa using hx)), List.map_reverse, iq]
end
section
noncomputable abbrev sW : Stmt := bC 6 1
noncomputable abbrev w1 : List Stmt := (av sW).drop 4
noncomputable def wR (s : List Nat) (i : Nat) (st : WS) : aj := [(S "self", .ptr 0), (S "ws", .str s), (S "S", .str [32]), (S "T", .str [9]), (S "count", .ptr (i + 1)), (S "b", nI st.1), (S "n", nI st.2.1), (S "nt", nI st.2.2.1)]
noncomputable abbrev wS (s : List Nat) (τ : aa) : aa := .inst 121 [(S "raw", .str s)] :: τ
noncomputable abbrev wT (k : Nat) (c : Nat) (ρ : aj) (σ : aa) : T (Fl × aj × aa) := turn (am sW) (ex (O (k + 1)) (am sW) 2000 99) (cx w1) (bN w1) (.str [c]) ρ σ
theorem nJ (b m : Nat) : decide ((m : Int) ≤ (b : Int)) = decide (m ≤ b) := by rw [decide_eq_decide]; lia
theorem eA {σ : aa} {d : D} {l : List D} {n : Nat} (hd : aV d = none) (h : fT σ d = some l) (h1 : l.length = n) (h2 : n ≤ 100000) : ak (S "len") σ [d] = some (nI n) := by
 subst h1
 show ((((aV d).bind _).or ((fT σ d).bind _))) = _
 rw [hd, h, Option.bind_none, Option.none_or, Option.bind_some, decide_eq_true (Nat.le_trans h2 (by decide))]
 rfl
theorem bX {σ : aa} {i : Nat} {l : List D} (h : lstAt σ i = some l) : fT σ (.ptr i) = some l := by
 delta fT aF
 simp only [wB, oO, Option.none_or, Option.bind_some]
 rw [bY h]
 rfl
theorem iy {σ : aa} {i : Nat} {l : List D} (h : lstAt σ i = some l) : aF σ (.ptr i) = some l := by
 delta aF
 simp only [wB, oO, Option.none_or, Option.bind_some]
 rw [bY h]
 rfl
theorem xf (k : Nat) (s : List Nat) (i : Nat) (b n nt u : Nat) (cs : List Nat) (τ : aa) (h : lstAt τ i = some (cs.map nI)) (hb : b < cs.length) (hu : cs.getD b 0 = u) (hl : cs.length ≤ 1000) :
  (wT k 9 (wR s i (b, n, nt, cs)) (wS s τ)).run = some (.next, wR s i (0, n + 1, nt + 1, cs.set b (u + 1)), wS s (τ.set i (.lst ((cs.set b (u + 1)).map nI)))) := by
 have e1 : ak (S "len") (wS s τ) [.ptr (i + 1)] = some (nI cs.length) := eA rfl (bX (σ := wS s τ) (i := i + 1) h) (List.length_map ..) (by lia)
 have e2 : some (decide (((cs.length : Nat) : Int) ≤ (b : Int))) = some false := by rw [nJ, decide_eq_false (by lia)]
 have e3 : al (O (k + 1)) (wS s τ) (.ptr (i + 1)) (nI b) = some (nI u) := bZ (bX (σ := wS s τ) (i := i + 1) h) (by rw [List.getElem?_map, List.getElem?_eq_getElem hb, ← hu, List.getD_eq_getElem?_getD, List.getElem?_eq_getElem hb]; rfl) (by lia)
 rw [List.map_set]
 have e4 : (lstAt τ i).map D.lst = some (.lst (cs.map nI)) := by rw [h]; rfl
 have e5 : decide (0 ≤ (b : Int) ∧ (b : Int) < ((cs.map nI).length : Nat) ∧ (b : Int) ≤ 16000000) = true := by rw [decide_eq_true_iff, List.length_map]; lia
 generalize cs.map nI = cl at *
 exact ac (p := [.skip 5, .d (nI cs.length), .b false, .skip 0, .d (nI u), .skip 0, .d (.lst cl), .b true]) (by kernel_rfl) (aI e1 (aI e2 (aI e3 (aI e4 (aI e5 trivial)))))
theorem r8 (m : Nat) (h2 : m ≤ 100000) : (Option.map (fun _ => D.lst (List.replicate m (nI 0))) (gd (decide (0 ≤ (m : Int) ∧ (m : Int) < 16777216)))) = some (D.lst (List.replicate m (nI 0))) := by
 rw [decide_eq_true (by lia)]
 rfl
theorem r7 {σ : aa} {n : Int} : aB .Mult σ (.lst [nI 0]) (.int n) = kH σ (.lst [nI 0]) (.int n) := by
 delta aB
 rw [show aC (.lst [nI 0]) = none from rfl, show gd (j7 .Mult) = none from rfl, show gd (sB .Mult) = some () from rfl]
 simp only [Option.bind_none, Option.none_or, Option.bind_some]
theorem r6 {σ : aa} {m : Nat} : kH σ (.lst [nI 0]) (.int m) = (Option.map (fun _ => D.lst (List.replicate m (nI 0))) (gd (decide (0 ≤ (m : Int) ∧ (m : Int) < 16777216)))) := by
 delta kH
 rw [show aF σ (.lst [nI 0]) = some [nI 0] from rfl, Option.bind_some]
 rw [show jz [nI 0] = some (nI 0) from rfl, Option.bind_some]
 rw [show aC (.int (m : Int)) = some (m : Int) from rfl, Option.bind_some]
 simp only [Int.toNat_natCast]
theorem vc {σ : aa} {n : Int} {m : Nat} (h : n = m) (h2 : m ≤ 100000) : aB .Mult σ (.lst [nI 0]) (.int n) = some (.lst ((List.replicate m 0).map nI)) := by
 subst h
 rw [r7, r6, List.map_replicate]
 exact r8 m h2
theorem xe (k : Nat) (s : List Nat) (i : Nat) (b n nt : Nat) (cs r : List Nat) (τ : aa) (h : lstAt τ i = some (cs.map nI)) (hb : cs.length ≤ b) (hl : b ≤ 1000) (hr : cs ++ List.replicate (b - cs.length + 1) 0 = r) :
  (wT k 9 (wR s i (b, n, nt, cs)) (wS s τ)).run = some (.next, wR s τ.length (0, n + 1, nt + 1, r.set b (r.getD b 0 + 1)), wS s ((τ ++ [SO.lst (r.map nI)]).set τ.length (.lst ((r.set b (r.getD b 0 + 1)).map nI)))) := by
 have hrl : b < r.length := by rw [← hr, List.length_append, List.length_replicate]; lia
 have e1 : ak (S "len") (wS s τ) [.ptr (i + 1)] = some (nI cs.length) := eA rfl (bX (σ := wS s τ) (i := i + 1) h) (List.length_map ..) (by lia)
 have e2 : some (decide (((cs.length : Nat) : Int) ≤ (b : Int))) = some true := by rw [nJ, decide_eq_true (by lia)]
 have e3 : aB .Mult (wS s τ) (.lst [nI 0]) (.int ((b : Int) - (cs.length : Nat) + 1)) = some (.lst ((List.replicate (b - cs.length + 1) 0).map nI)) := vc (by lia) (by lia)
 have e4 : aB .Add (wS s τ) (.ptr (i + 1)) (.lst ((List.replicate (b - cs.length + 1) 0).map nI)) = some (.lst (r.map nI)) := by
  rw [gK (iy (σ := wS s τ) (i := i + 1) h) rfl (by rw [List.length_map, List.length_map, List.length_replicate]; lia) rfl rfl, ← List.map_append, hr]
 have e5 : al (O (k + 1)) (wS s (τ ++ [SO.lst (r.map nI)])) (.ptr (τ.length + 1)) (nI b) = some (nI (r.getD b 0)) := bZ (bX (σ := wS s (τ ++ [SO.lst (r.map nI)])) (i := τ.length + 1) (by show lstAt (τ ++ _) τ.length = _; delta lstAt; rw [List.getElem?_concat_length]; rfl)) (by rw [List.getElem?_map, List.getD_eq_getElem?_getD, List.getElem?_eq_getElem hrl]; rfl) (by lia)
 have e6 : (lstAt (τ ++ [SO.lst (r.map nI)]) τ.length).map D.lst = some (.lst (r.map nI)) := by delta lstAt; rw [List.getElem?_concat_length]; rfl
 have e7 : decide (0 ≤ (b : Int) ∧ (b : Int) < ((r.map nI).length : Nat) ∧ (b : Int) ≤ 16000000) = true := by rw [decide_eq_true_iff, List.length_map]; lia
 rw [List.map_set]
 generalize r.getD b 0 = u at *
 generalize List.map nI (List.replicate (b - cs.length + 1) 0) = q at *
 generalize r.map nI = rl at *
 exact ac (p := [.skip 5, .d (nI cs.length), .b true, .skip 0, .d (nI cs.length), .skip 1, .d (.lst q), .d (.lst rl), .d (nI u), .skip 0, .d (.lst rl), .b true]) (by kernel_rfl) (aI e1 (aI e2 (aI e1 (aI e3 (aI e4 (aI e5 (aI e6 (aI e7 trivial))))))))
theorem uk (k : Nat) (s : List Nat) (i : Nat) (st : WS) (τ : aa) : (wT k 32 (wR s i st) (wS s τ)).run = some (.next, wR s i (st.1 + 1, st.2.1 + 1, st.2.2.1, st.2.2.2), wS s τ) := ac (p := []) (by kernel_rfl) trivial
theorem xg (k : Nat) (s : List Nat) (i c : Nat) (st : WS) (τ : aa) (h1 : (c == 32) = false) (h2 : (c == 9) = false) : (wT k c (wR s i st) (wS s τ)).run = some (.brk, wR s i st, wS s τ) := by
 have e : ∀ d : Nat, (c == d) = false → some (false != ([c] == [d])) = some false := fun d h => by rw [bv]; show some (c == d && true) = _; rw [h]; rfl
 exact ac (p := [.b false, .skip 0, .b false]) (by kernel_rfl) (aI (e 32 h1) (aI (e 9 h2) trivial))
theorem ki (k : Nat) (s0 : List Nat) : ∀ (s : List Nat) (st : WS) (i : Nat) (τ : aa), lstAt τ i = some (st.2.2.2.map nI) → st.1 + s.length ≤ 100 → st.2.2.2.length ≤ 101 →
  ∃ i' τ', (cV (am sW) (ex (O (k + 1)) (am sW) 2000 99) (cx w1) (bN w1) (s.map fun c => .str [c]) (wR s0 i st) (wS s0 τ)).run = some (.next, wR s0 i' (ik s st), wS s0 τ') ∧ lstAt τ' i' = some ((ik s st).2.2.2.map nI) ∧ (ik s st).2.2.2.length ≤ 101
 | [], st, i, τ, h, _, h2 => ⟨i, τ, rfl, h, h2⟩
 | c :: s, st, i, τ, h, h1, h2 => by
  rw [List.length_cons] at h1
  rw [List.map_cons]
  unfold ik
  cases e1 : c == 32
  ·cases e2 : c == 9
   ·simp only [Bool.false_eq_true, if_false]
    exact ⟨i, τ, by rw [au (xg k s0 i c st τ e1 e2)], h, h2⟩
   ·simp only [Bool.false_eq_true, if_false, if_true]
    obtain ⟨b, n, nt, cs⟩ := st
    have hc := eq_of_beq e2
    clear e1 e2; subst hc
    simp only at h h1 h2 ⊢
    unfold ij ni
    by_cases hb : cs.length ≤ b
    ·rw [if_pos hb]
     rw [au (xe k s0 i b n nt cs _ τ h hb (by lia) rfl)]
     refine ki k s0 s _ _ _ ?_ (by simp only; lia) (by simp only [List.length_set, List.length_append, List.length_replicate]; lia)
     unfold lstAt
     rw [List.getElem?_set_self (by rw [List.length_append]; exact Nat.lt_succ_self _)]; rfl
    ·rw [if_neg hb]
     rw [au (xf k s0 i b n nt _ cs τ h (by lia) rfl (by lia))]
     refine ki k s0 s _ _ _ ?_ (by simp only; lia) (by simp only [List.length_set]; lia)
     unfold lstAt
     rw [List.getElem?_set_self (List.getElem?_eq_some_iff.mp (bY h)).1]; rfl
  ·simp only [if_true]
   have hc := eq_of_beq e1
   clear e1; subst hc
   rw [au (uk k s0 i st τ)]
   exact ki k s0 s _ _ _ h (by simp only; lia) h2
noncomputable def dA (s : List Nat) (st : WS) : D := .obj 121 [(S "raw", .str s), (S "n", nI st.2.1), (S "nt", nI st.2.2.1), (S "norm", .tup [.tup (st.2.2.2.map nI), nI st.1]), (S "is_simple", .bool (decide ((st.2.2.2.length : Int) ≤ 1)))]
noncomputable def jy (s : List Nat) : D := dA s (aE s)
noncomputable abbrev eW : FE := ⟨76, sW, [S "self", S "ws"], 2, 0, []⟩
theorem xj {σ : aa} {d : D} {l : List D} (h : aF σ d = some l) (h2 : l.length ≤ 1000) : ak (S "tuple") σ [d] = some (.tup l) := by
 show ((aF σ d).bind fun l => (gd (decide (l.length ≤ 16384))).map fun _ => D.tup l) = _
 rw [h, Option.bind_some, decide_eq_true (Nat.le_trans h2 (by decide))]
 rfl
theorem yJ {n : Nat} {x : Str} {q : Nat × FE} (h : inN.lookup x = some q) {ds : List D} {fs : List (Str × D)} (h2 : qd (O n) q.1 q.2 ds = some fs) (σ : aa) : (O (n + 1)).new x ds σ = some (.obj q.1 fs, σ ++ [.dead]) := by
 show (inN.lookup x).bind _ = _
 rw [h]
 show ((qd (O n) q.1 q.2 ds).map _).or _ = _
 rw [h2]
 rfl
theorem u8 {o : aO} {c : Nat} {e : FE} {ds : List D} {σ : aa} {fs : List (Str × D)} (h : dO ds = true) (h1 : fU o e (.ptr 0 :: ds) [] [.inst c []] = some (.none, .inst c fs :: σ)) (h2 : qQ fs = true) : qd o c e ds = some fs := by
 delta qd
 rw [h, h1]
 simp only [gd, if_true, Option.bind_some, lh, List.getElem?_cons_zero, li, beq_self_eq_true, h2, Option.map_some]
theorem w9 (k : Nat) (s : List Nat) (hs : s.length ≤ 100) : ∃ τ, fU (O (k + 1)) eW [.ptr 0, .str s] [] [.inst 121 []] = some (.none, .inst 121 [(S "raw", .str s), (S "n", nI (aE s).2.1), (S "nt", nI (aE s).2.2.1), (S "norm", .tup [.tup ((aE s).2.2.2.map nI), nI (aE s).1]), (S "is_simple", .bool (decide (((aE s).2.2.2.length : Int) ≤ 1)))] :: τ) := by
 obtain ⟨i, τ, h1, h2, h3⟩ := ki k s s (0, 0, 0, []) 0 [SO.lst []] rfl (by simpa using hs) (Nat.zero_le _)
 refine ⟨τ, ?_⟩
 delta aE
 generalize ik s (0, 0, 0, []) = st at *
 obtain ⟨b, n, nt, cs⟩ := st
 simp only at h2 h3 ⊢
 have e1 : ∀ fs : List (Str × D), ak (S "tuple") (SO.inst 121 fs :: τ) [.ptr (i + 1)] = some (.tup (cs.map nI)) := fun fs => xj (iy (σ := SO.inst 121 fs :: τ) (i := i + 1) h2) (by rw [List.length_map]; lia)
 have e2 : ∀ fs : List (Str × D), ak (S "len") (SO.inst 121 fs :: τ) [.ptr (i + 1)] = some (nI cs.length) := fun fs => eA rfl (bX (σ := SO.inst 121 fs :: τ) (i := i + 1) h2) (List.length_map ..) (by lia)
 generalize cs.map nI = cl at *
 generalize cs.length = m at *
 refine iT (q := (.next, wR s i (b, n, nt, cs), SO.inst 121 [(S "raw", .str s), (S "n", nI n), (S "nt", nI nt), (S "norm", .tup [.tup cl, nI b]), (S "is_simple", .bool (decide ((m : Int) ≤ 1)))] :: τ)) rfl ?_ rfl
 refine aw 4 (ρ₁ := wR s 0 (0, 0, 0, [])) (σ₁ := wS s [SO.lst []]) (ac (p := []) (g := True) (by kernel_rfl) trivial) ?_
 refine bA (l := w1) (by kernel_rfl) (lk := none) (items := s.map fun c => .str [c]) (σ₁ := wS s [SO.lst []]) (ac (p := []) (g := True) (by kernel_rfl) trivial) h1 rfl ?_
 exact ac (p := [.d (.tup cl), .d (nI m)]) (g := ak (S "tuple") (SO.inst 121 [(S "raw", .str s), (S "n", nI n), (S "nt", nI nt)] :: τ) [.ptr (i + 1)] = some (.tup cl) ∧ ak (S "len") (SO.inst 121 [(S "raw", .str s), (S "n", nI n), (S "nt", nI nt), (S "norm", .tup [.tup cl, nI b])] :: τ) [.ptr (i + 1)] = some (nI m) ∧ True) (by kernel_rfl) ⟨e1 _, e2 _, trivial⟩
theorem Gx (k : Nat) (s : List Nat) (σ : aa) (hs : s.length ≤ 100) : (O (k + 2)).new (S "Whitespace") [.str s] σ = some (jy s, σ ++ [.dead]) := by
 obtain ⟨τ, h⟩ := w9 k s hs
 refine yJ (n := k + 1) (q := (121, eW)) (by kernel_rfl) (u8 (σ := τ) rfl h ?_) σ
 have hpf : dO ((aE s).2.2.2.map nI) = true := bj (fun _ => rfl) _
 simp only [Eg, Ef, eU, eO, fC, eN, eT, eQ, lN, lM, hpf, Bool.and_self]
end
section
theorem jL (ts : Nat) (h0 : 0 < ts) : ∀ (cs : List Nat) (i : Nat), i ≤ ts → cc ts i cs = cc ts ts (cs.drop (ts - i))
 | [], i, h => by rw [List.drop_nil]; rfl
 | c :: cs, i, h => by
  rcases Nat.lt_or_ge i ts with h1 | h1
  ·rw [show ts - i = (ts - (i + 1)) + 1 by lia, List.drop_succ_cons, ← jL ts h0 cs (i + 1) h1]
   show i / ts * c + cc ts (i + 1) cs = _
   rw [Nat.div_eq_of_lt h1, Nat.zero_mul, Nat.zero_add]
  ·have : i = ts := Nat.le_antisymm h h1
   clear h0 h h1; subst this
   rw [Nat.sub_self]; rfl
noncomputable def dJ (ts : Nat) (cs : List Nat) (il i : Nat) : Nat := il + i / ts * cs.getD i 0
theorem wI (ts : Nat) (cs : List Nat) : ∀ (m i il : Nat), i + m = cs.length → (List.range' i m).foldl (dJ ts cs) il = il + cc ts i (cs.drop i)
 | 0, i, il, h => by rw [List.drop_of_length_le (i := i) (Nat.le_of_eq h.symm)]; rfl
 | m + 1, i, il, h => by
  have hi : i < cs.length := by rw [← h]; exact Nat.lt_add_of_pos_right (Nat.succ_pos m)
  rw [List.drop_eq_getElem_cons hi]
  show (List.range' (i + 1) m).foldl (dJ ts cs) (dJ ts cs il i) = il + (i / ts * cs[i] + cc ts (i + 1) (cs.drop (i + 1)))
  rw [wI ts cs m (i + 1) _ (by rw [← h]; exact Nat.add_right_comm i 1 m), ← Nat.add_assoc]
  unfold dJ
  rw [List.getD_eq_getElem?_getD, List.getElem?_eq_getElem hi]; rfl
theorem zf (ts : Nat) (h0 : 0 < ts) (cs : List Nat) : (List.range' ts (cs.length - ts)).foldl (dJ ts cs) 0 = cc ts 0 cs := by
 rw [jL ts h0 cs 0 (Nat.zero_le _), Nat.sub_zero]
 rcases Nat.le_total ts cs.length with h | h
 ·rw [wI ts cs _ _ _ (Nat.add_sub_cancel' h), Nat.zero_add]
 ·rw [Nat.sub_eq_zero_of_le h, List.drop_of_length_le h]; rfl
theorem pe (ts : Nat) (h0 : 0 < ts) : ∀ (cs : List Nat) (j i : Nat), ts ≤ j + i → cs.getD i 0 ≤ cc ts j cs
 | [], j, i, _ => Nat.zero_le _
 | c :: cs, j, 0, h => by
  have : 1 ≤ j / ts := (Nat.le_div_iff_mul_le h0).mpr (by rw [Nat.one_mul]; exact h)
  show c ≤ j / ts * c + _
  exact Nat.le_add_right_of_le (Nat.le_trans (Nat.le_of_eq (Nat.one_mul c).symm) (Nat.mul_le_mul_right c this))
 | c :: cs, j, i + 1, h => by
  show cs.getD i 0 ≤ j / ts * c + _
  exact Nat.le_add_left_of_le (pe ts h0 cs (j + 1) i (by rw [Nat.add_right_comm]; exact h))
theorem kL (ts : Nat) (h0 : 0 < ts) : ∀ (s : List Nat) (b : Nat), cf ts b s ≤ b + s.length * (ts + 1)
 | [], b => Nat.le_add_right _ _
 | c :: s, b => by
  have e : (b / ts + 1) * ts ≤ b + ts := by rw [Nat.add_mul, Nat.one_mul]; exact Nat.add_le_add_right (Nat.div_mul_le_self b ts) ts
  have h1 := kL ts h0 s (b + 1)
  have h2 := kL ts h0 s 0
  rw [List.length_cons, Nat.add_mul, Nat.one_mul]
  unfold cf
  split
  ·lia
  ·split
   ·lia
   ·lia
noncomputable def l5 (st : WS) : Nat := max (st.2.2.2.length - 1) st.1
noncomputable def ff (a b : WS) : Nat := max (l5 a) (l5 b) + 1
noncomputable def hO (c : Nat → Nat → Bool) (a b : WS) : List (Nat × Nat × Nat) := ((List.range' 1 (ff a b)).filter fun ts => c (gN ts a) (gN ts b)).map fun ts => (ts, gN ts a, gN ts b)
noncomputable def bi (c : Nat → Nat → Bool) (a b : WS) (l : List (Nat × Nat × Nat)) (ts : Nat) : List (Nat × Nat × Nat) := if c (gN ts a) (gN ts b) then l ++ [(ts, gN ts a, gN ts b)] else l
theorem lw (c : Nat → Nat → Bool) (a b : WS) : ∀ (xs : List Nat) (l : List (Nat × Nat × Nat)), xs.foldl (bi c a b) l = l ++ ((xs.filter fun ts => c (gN ts a) (gN ts b)).map fun ts => (ts, gN ts a, gN ts b))
 | [], l => (List.append_nil l).symm
 | x :: xs, l => by
  rw [List.foldl_cons, lw c a b xs, List.filter_cons]
  unfold bi
  split
  ·rw [List.map_cons, List.append_assoc]; rfl
  ·rfl
end
section
theorem iG : ∀ (s : List Nat) (st : WS), (ik s st).2.2.2.length ≤ max st.2.2.2.length (st.1 + s.length + 1)
 | [], st => Nat.le_max_left _ _
 | c :: s, st => by
  obtain ⟨b, n, nt, cs⟩ := st
  unfold ik
  simp only [List.length_cons]
  have hb : b + 1 ≤ b + (s.length + 1) + 1 := Nat.succ_le_succ (Nat.le_add_right _ _)
  split
  ·exact Nat.le_trans (iG s (b + 1, n + 1, nt, cs)) (Nat.le_of_eq (by simp only [Nat.add_assoc, Nat.add_comm 1]))
  ·split
   ·have h : (ij cs b).length ≤ max cs.length (b + 1) := by
     unfold ij ni
     rw [List.length_set]
     split
     ·rename_i hc
      rw [List.length_append, List.length_replicate, ← Nat.add_assoc, Nat.add_sub_of_le hc]
      exact Nat.le_max_right _ _
     ·exact Nat.le_max_left _ _
    have h2 : 0 + s.length + 1 ≤ b + (s.length + 1) + 1 := by rw [Nat.zero_add, ← Nat.add_assoc]; exact Nat.succ_le_succ (Nat.le_succ_of_le (Nat.le_add_left _ _))
    exact Nat.le_trans (iG s (0, n + 1, nt + 1, ij cs b)) (Nat.max_le.mpr ⟨Nat.le_trans h (Nat.max_le.mpr ⟨Nat.le_max_left _ _, Nat.le_trans hb (Nat.le_max_right _ _)⟩), Nat.le_trans h2 (Nat.le_max_right _ _)⟩)
   ·exact Nat.le_max_left _ _
noncomputable def qN (st : WS) : Prop := st.1 ≤ 100 ∧ st.2.2.2.length ≤ 101 ∧ ∀ ts, 0 < ts → ts ≤ 1000 → gN ts st ≤ 1000000
theorem dj {s : List Nat} (h : s.length ≤ 50) : qN (aE s) := by
 refine ⟨?_, ?_, fun ts h0 h1 => ?_⟩
 ·have h1 : (aE s).1 ≤ gN 1 (aE s) := Nat.le_add_right _ _
  rw [d8] at h1
  have h2 := kL 1 Nat.one_pos s 0
  lia
 ·have := iG s (0, 0, 0, [])
  delta aE
  simp only [List.length_nil] at this
  lia
 ·rw [d8]
  refine Nat.le_trans (kL ts h0 s 0) ?_
  rw [Nat.zero_add]
  exact Nat.le_trans (Nat.mul_le_mul h (Nat.succ_le_succ h1)) (by decide)
noncomputable def AM (a b : List Nat) : Prop := ∀ ts, 0 < ts → cf ts 0 a < cf ts 0 b
noncomputable def En (a b : List Nat) : Prop := ∀ ts, 0 < ts → cf ts 0 a = cf ts 0 b
noncomputable def nZ (a b : Nat) : Bool := a != b
noncomputable def mG (a b : Nat) : Bool := decide (b ≤ a)
theorem q7 {c : Nat → Nat → Bool} {a b : List Nat} (h : ∀ ts, 0 < ts → c (cf ts 0 a) (cf ts 0 b) = false) : hO c (aE a) (aE b) = [] := by
 delta hO
 rw [List.filter_eq_nil_iff.mpr fun ts ht => by rw [d8, d8, h ts (List.mem_range'_1.mp ht).1]; exact Bool.false_ne_true]
 rfl
theorem xc {a b : List Nat} (h : AM a b) : hO mG (aE a) (aE b) = [] := q7 fun ts h0 => decide_eq_false (Nat.not_le_of_lt (h ts h0))
theorem xd {a b : List Nat} (h : En a b) : hO nZ (aE a) (aE b) = [] := q7 fun ts h0 => by rw [h ts h0]; delta nZ; simp
theorem q6 {a b : List Nat} (h : cf 1 0 b ≤ cf 1 0 a) : (hO mG (aE a) (aE b)).isEmpty = false := by
 delta hO ff
 rw [List.range'_succ, List.filter_cons, if_pos (by rw [d8, d8]; exact decide_eq_true h)]
 rfl
theorem oa {c : Nat → Nat → Bool} {a b : List Nat} (h : ∀ ts, 0 < ts → c (cf ts 0 a) (cf ts 0 b) = true) : hO c (aE a) (aE b) = (List.range' 1 (ff (aE a) (aE b))).map fun ts => (ts, gN ts (aE a), gN ts (aE b)) := by
 delta hO
 rw [List.filter_eq_self.mpr fun ts ht => by rw [d8, d8]; exact h ts (List.mem_range'_1.mp ht).1]
theorem q5 {a b : List Nat} (h : AM a b) : ((hO nZ (aE a) (aE b)).map fun t => (t.1, t.2.2, t.2.1)) = hO mG (aE b) (aE a) := by
 rw [oa fun ts h0 => by delta nZ; rw [bne_iff_ne]; exact Nat.ne_of_lt (h ts h0), oa fun ts h0 => decide_eq_true (Nat.le_of_lt (h ts h0)), List.map_map]
 delta ff
 rw [Nat.max_comm]
 rfl
theorem mT {a b : WS} (ha : qN a) (hb : qN b) : ff a b ≤ 102 := by
 obtain ⟨a1, a2, _⟩ := ha
 obtain ⟨b1, b2, _⟩ := hb
 exact Nat.succ_le_succ (Nat.max_le.mpr ⟨Nat.max_le.mpr ⟨Nat.le_succ_of_le (Nat.pred_le_pred a2), Nat.le_succ_of_le a1⟩, Nat.max_le.mpr ⟨Nat.le_succ_of_le (Nat.pred_le_pred b2), Nat.le_succ_of_le b1⟩⟩)
inductive Tr where
 | leaf (l : List Nat) (w : Nat)
 | node (l : List Nat) (sg : Bool) (a b : Tr)
noncomputable def Tr.lead : Tr → List Nat
 | .leaf l _ => l
 | .node l _ _ _ => l
noncomputable def cw (sg : Bool) : List Nat := if sg then [47, 47] else [43]
noncomputable def Tr.size : Tr → Nat
 | .leaf _ _ => 1
 | .node _ _ a b => 1 + a.size + b.size
noncomputable abbrev mS := List Nat × Int × List Nat
noncomputable def Tr.word (wd : Nat → List Nat) : Tr → List Nat
 | .leaf _ w => wd w
 | .node _ sg _ _ => cw sg
noncomputable def bu (wd : Nat → List Nat) : Tr → List mS
 | .leaf l w => [(l, (w : Int), wd w)]
 | .node l sg a b => (l, -1, cw sg) :: (bu wd a ++ bu wd b)
noncomputable def Tr.str (wd : Nat → List Nat) (t : Tr) : List Nat := t.lead ++ t.word wd
noncomputable def tx (wd : Nat → List Nat) : Bool → Tr → List Nat
 | _, .leaf _ w => wd w
 | ab, .node _ sg a b => (if ab && !sg then [40] else []) ++ (tx wd sg a ++ (cw sg ++ (tx wd sg b ++ (if ab && !sg then [41] else []))))
noncomputable def good (wd : Nat → List Nat) : Tr → Prop
 | .leaf l w => (l ++ wd w).length ≤ 50
 | .node l sg a b => (l ++ cw sg).length ≤ 50 ∧ good wd a ∧ good wd b ∧ AM (l ++ cw sg) (a.str wd) ∧ AM (l ++ cw sg) (b.str wd) ∧ En (a.str wd) (b.str wd)
theorem sN {wd : Nat → List Nat} : ∀ {t : Tr}, good wd t → (t.str wd).length ≤ 50
 | .leaf _ _, h => h
 | .node _ _ _ _, h => h.1
end
section
theorem eI (k : Nat) (s : List Nat) (st : WS) (σ : aa) (h : st.2.2.2.length ≤ 1000) : (O (k + 2)).meth 121 (S "longest_run_of_spaces") [dA s st] [] σ = some (nI (l5 st), σ) := by
 rw [gj (n := k + 1) (e := ⟨83, bC 6 2, [S "self"], 1, 0, []⟩) (by kernel_rfl)]
 obtain ⟨b, n, nt, cs⟩ := st
 have e1 : ak (S "len") [] [.tup (cs.map nI)] = some (nI cs.length) := eA rfl rfl (List.length_map ..) (by simp only at h; lia)
 have hpf : iv (dA s (b, n, nt, cs)) = true := by simp only [dA, eU, eO, fC, eN, eT, eQ, Eg, Ef, lN, lM, bj (f := nI) fun _ => rfl, Bool.and_self]
 have e2 : nI (l5 (b, n, nt, cs)) = .int (if ((cs.length : Nat) : Int) - 1 < (b : Int) then (b : Int) else (cs.length : Nat) - 1) := by
  unfold l5 nI
  simp only
  congr 1
  split <;> lia
 rw [e2]
 unfold dA at *
 simp only at *
 generalize decide ((cs.length : Int) ≤ 1) = si at *
 generalize cs.length = m at *
 generalize cs.map nI = cl at *
 refine aK (q := (.ret (.int (if (m : Int) - 1 < (b : Int) then (b : Int) else (m : Nat) - 1)), [(S "self", .obj 121 [(S "raw", .str s), (S "n", nI n), (S "nt", nI nt), (S "norm", .tup [.tup cl, nI b]), (S "is_simple", .bool si)]), (S "count", .tup cl), (S "trailing", nI b)], [])) rfl (by simp only [lN, lM, hpf, Bool.and_self]) ?_ rfl rfl
 exact ac (p := [.skip 0, .d (nI m)]) (by kernel_rfl) (aI e1 trivial)
theorem gR {a : Nat} (ha : a ≤ 1000000000) : small (a : Int) = true := by unfold small; rw [decide_eq_true_iff]; lia
theorem BG {a b : Int} (h1 : small a = true) (h2 : small b = true) : fh .Mult a b = some (a * b) := by
 unfold fh
 rw [h1, h2]
 rfl
theorem lf {σ : aa} {op : Operator} {a b c : Int} (h : fh op a b = some c) : aB op σ (.int a) (.int b) = some (.int c) := by
 unfold aB
 simp only [pi, Option.bind_some]
 rw [h]
 rfl
theorem cm {σ : aa} {a b : Nat} (ha : a ≤ 1000000000) (hb : b ≤ 1000000000) : aB .Mult σ (nI a) (nI b) = some (nI (a * b)) := lf (BG (gR ha) (gR hb))
theorem BJ {a b : Nat} (h0 : 0 < b) (hb : b ≤ 1000000) : fh .FloorDiv a b = some ((a / b : Nat) : Int) := by
 have h1 : ((b : Int) != 0) = true := by rw [bne_iff_ne]; lia
 have h2 : (b : Int).natAbs < 1073741824 := by lia
 unfold fh
 simp only
 rw [h1, decide_eq_true h2, ← Int.ofNat_fdiv]
 rfl
theorem dy {σ : aa} {a b : Nat} (h0 : 0 < b) (hb : b ≤ 1000000) : aB .FloorDiv σ (nI a) (nI b) = some (nI (a / b)) := lf (BJ h0 hb)
noncomputable abbrev sL : Stmt := bC 6 3
noncomputable abbrev l1 : List Stmt := (av sL).drop 2
noncomputable abbrev eL : FE := ⟨90, sL, [S "self", S "tabsize"], 2, 0, []⟩
noncomputable def lR (me : D) (cl : List D) (b ts : Nat) (il : Nat) : aj × aa := ([(S "self", me), (S "tabsize", nI ts), (S "count", .tup cl), (S "trailing", nI b), (S "il", nI il)], [])
theorem yW (k : Nat) (me : D) (b ts il i : Nat) (cs : List Nat) (h : 0 < ts ∧ ts ≤ 1000 ∧ i < cs.length ∧ i ≤ 1000 ∧ cs.getD i 0 ≤ 1000000) :
  (turn (am sL) (ex (O (k + 1)) (am sL) 2000 99) (cx l1) (bN l1) (nI i) (lR me (cs.map nI) b ts il).1 (lR me (cs.map nI) b ts il).2).run = some (.next, lR me (cs.map nI) b ts (dJ ts cs il i)) := by
 obtain ⟨h0, h1, h2, h3, h4⟩ := h
 have e1 : aB .FloorDiv [] (nI i) (nI ts) = some (nI (i / ts)) := dy h0 (Nat.le_trans h1 (by decide))
 have e2 : al (O (k + 1)) [] (.tup (cs.map nI)) (nI i) = some (nI (cs.getD i 0)) := bZ (l := cs.map nI) rfl (by rw [List.getElem?_map, List.getD_eq_getElem?_getD, List.getElem?_eq_getElem h2]; rfl) (Nat.lt_of_le_of_lt h3 (by decide))
 have e3 : aB .Mult [] (nI (i / ts)) (nI (cs.getD i 0)) = some (nI (i / ts * cs.getD i 0)) := cm (Nat.le_trans (Nat.div_le_self _ _) (Nat.le_trans h3 (by decide))) (Nat.le_trans h4 (by decide))
 unfold dJ
 generalize i / ts * cs.getD i 0 = q at *
 generalize i / ts = p at *
 generalize cs.getD i 0 = x at *
 generalize cs.map nI = cl at *
 exact ac (p := [.d (nI p), .d (nI x), .d (nI q)]) (by kernel_rfl) (aI e1 (aI e2 (aI e3 trivial)))
theorem gV (a b : Nat) : bx (a : Int) (b : Int) = (List.range' a (b - a)).map nI := by
 unfold bx
 rw [List.range'_eq_map_range, List.map_map, show ((b : Int) - a).toNat = b - a by lia]
 rfl
theorem fA {a b : Nat} (ha : a ≤ 100000) (hb : b ≤ 100000) : bM (a : Int) (b : Int) = true := by
 unfold bM; rw [decide_eq_true_iff]; lia
theorem rR (s : List Nat) (st : WS) : iv (dA s st) = true := by simp only [dA, eU, eO, fC, eN, eT, eQ, Eg, Ef, lN, lM, bj (f := nI) fun _ => rfl, Bool.and_self]
theorem iD (k : Nat) (s : List Nat) (st : WS) (ts : Nat) (σ : aa) (h0 : 0 < ts) (h1 : ts ≤ 1000) (hB : qN st) : (O (k + 2)).meth 121 (S "indent_level") [dA s st, nI ts] [] σ = some (nI (gN ts st), σ) := by
 rw [gj (n := k + 1) (e := eL) (by kernel_rfl)]
 have hpf := rR s st
 obtain ⟨b, n, nt, cs⟩ := st
 obtain ⟨b1, b2, b3⟩ := hB
 have b3 := b3 ts h0 h1
 unfold gN at *
 simp only at *
 have hs : cc ts 0 cs + nt ≤ 1000000 := Nat.le_trans (Nat.le_trans (Nat.le_mul_of_pos_left _ h0) (Nat.le_add_left _ _)) b3
 have hok : fZ (dJ ts cs) (fun _ i => 0 < ts ∧ ts ≤ 1000 ∧ i < cs.length ∧ i ≤ 1000 ∧ cs.getD i 0 ≤ 1000000) 0 (List.range' ts (cs.length - ts)) :=
  d6 (fun _ => True) (fun i => ts ≤ i ∧ i < cs.length) (fun a i _ hi => ⟨⟨h0, h1, hi.2, by lia, Nat.le_trans (pe ts h0 cs 0 i (by lia)) (Nat.le_trans (Nat.le_add_right _ nt) hs)⟩, trivial⟩) trivial fun i hi => by
   have := List.mem_range'_1.mp hi
   lia
 have hfor := cr nI (lR (dA s (b, n, nt, cs)) (cs.map nI) b ts) (dJ ts cs) _ (fun il i => yW k (dA s (b, n, nt, cs)) b ts il i cs) _ 0 hok
 rw [zf ts h0] at hfor
 have e1 : ak (S "len") [] [.tup (cs.map nI)] = some (nI cs.length) := eA rfl rfl (List.length_map ..) (by lia)
 have e2 : bM (ts : Int) (cs.length : Nat) = true := fA (by lia) (by lia)
 have e3 := cm (σ := []) (a := ts) (b := cc ts 0 cs + nt) (by lia) (by lia)
 rw [← gV] at hfor
 unfold dA at *
 simp only at *
 generalize decide ((cs.length : Int) ≤ 1) = si at *
 generalize cc ts 0 cs = il at *
 generalize ts * (il + nt) = u at *
 generalize cs.length = m at *
 generalize cs.map nI = cl at *
 refine aK (q := (.ret (nI (b + u)), (lR (.obj 121 [(S "raw", .str s), (S "n", nI n), (S "nt", nI nt), (S "norm", .tup [.tup cl, nI b]), (S "is_simple", .bool si)]) cl b ts il).1, [])) rfl (by simp only [lN, lM, hpf]; rfl) ?_ rfl rfl
 refine aw 2 (ρ₁ := (lR (.obj 121 [(S "raw", .str s), (S "n", nI n), (S "nt", nI nt), (S "norm", .tup [.tup cl, nI b]), (S "is_simple", .bool si)]) cl b ts 0).1) (σ₁ := []) (ac (p := []) (by kernel_rfl) trivial) ?_
 refine bA (l := l1) (by kernel_rfl) (lk := none) (items := bx (ts : Int) (m : Int)) (σ₁ := []) (ac (p := [.d (nI m), .b true]) (by kernel_rfl) (aI e1 (aI e2 trivial))) hfor rfl ?_
 exact ac (p := [.skip 0, .d (nI (il + nt)), .d (nI u), .d (nI (b + u))]) (g := aB .Add [] (nI il) (nI nt) = some (nI (il + nt)) ∧ aB .Mult [] (nI ts) (nI (il + nt)) = some (nI u) ∧ aB .Add [] (nI b) (nI u) = some (nI (b + u)) ∧ True) (by kernel_rfl) ⟨rfl, e3, rfl, trivial⟩
end
section
noncomputable def aY (t : Nat × Nat × Nat) : D := .tup [nI t.1, nI t.2.1, nI t.2.2]
noncomputable def eR (x y : D) (n : Nat) (l : List (Nat × Nat × Nat)) : aj × aa := ([(S "self", x), (S "other", y), (S "n", nI n), (S "a", .ptr 0)], [.lst (l.map aY)])
theorem tq {a b : Nat} {c : Bool} (h : nZ a b = c) : some (true != ((a : Int) == (b : Int))) = some c := by
 rw [bQ, ← h]
 show some (true != (a == b)) = some !(a == b)
 cases (a == b) <;> rfl
theorem tp {a b : Nat} {c : Bool} (h : mG a b = c) : some (decide ((b : Int) ≤ (a : Int))) = some c := by rw [nJ, ← h]; rfl
noncomputable def uh (c : Nat → Nat → Bool) (a b : WS) : List (Nat × Nat × Nat) := (List.range' 1 (ff a b)).foldl (bi c a b) []
theorem oe (c : Nat → Nat → Bool) (a b : WS) : uh c a b = hO c a b := by delta uh hO; rw [lw, List.nil_append]
theorem lx {c : Nat → Nat → Bool} {a b : WS} : ∀ (xs : List Nat) (l : List (Nat × Nat × Nat)), (xs.foldl (bi c a b) l).length ≤ l.length + xs.length
 | [], l => Nat.le_refl _
 | x :: xs, l => by
  refine Nat.le_trans (lx xs _) ?_
  delta bi
  split
  ·rw [List.length_append]; simp only [List.length_cons, List.length_nil]; lia
  ·simp only [List.length_cons]; lia
theorem Fh {c : Nat → Nat → Bool} {a b : WS} : ∀ (xs : List Nat) (l : List (Nat × Nat × Nat)), l.length + xs.length ≤ 1000 → (∀ x ∈ xs, 0 < x ∧ x ≤ 1000) → fZ (bi c a b) (fun l ts => 0 < ts ∧ ts ≤ 1000 ∧ l.length ≤ 1000) l xs
 | [], l, _, _ => trivial
 | x :: xs, l, h, hx => by
  have h2 := lx (c := c) (a := a) (b := b) [x] l
  simp only [List.length_cons, List.length_nil, List.foldl_cons, List.foldl_nil] at h h2
  exact ⟨⟨(hx x (List.mem_cons_self ..)).1, (hx x (List.mem_cons_self ..)).2, by lia⟩, Fh xs _ (by lia) fun y hy => hx y (List.mem_cons_of_mem _ hy)⟩
noncomputable abbrev Ee : Stmt := bC 6 5
noncomputable abbrev Gg : List Stmt := (av Ee).drop 2
noncomputable abbrev Hy : FE := ⟨104, Ee, [S "self", S "other"], 2, 0, []⟩
theorem EK (k : Nat) (s1 s2 : List Nat) (st1 st2 : WS) (n : Nat) (h1 : qN st1) (h2 : qN st2) (l : List (Nat × Nat × Nat)) (ts : Nat) (h : 0 < ts ∧ ts ≤ 1000 ∧ l.length ≤ 1000) :
  (turn (am Ee) (ex (O (k + 2)) (am Ee) 2000 99) (cx Gg) (bN Gg) (nI ts) (eR (dA s1 st1) (dA s2 st2) n l).1 (eR (dA s1 st1) (dA s2 st2) n l).2).run = some (.next, eR (dA s1 st1) (dA s2 st2) n (bi nZ st1 st2 l ts)) := by
 have e1 := iD k s1 st1 ts [.lst (l.map aY)] h.1 h.2.1 h1
 have e2 := iD k s2 st2 ts [.lst (l.map aY)] h.1 h.2.1 h2
 delta bi
 generalize gN ts st1 = p at *
 generalize gN ts st2 = q at *
 have hl : (l.map aY).length ≤ 100000 := by rw [List.length_map]; lia
 cases hc : nZ p q
 ·rw [if_neg Bool.false_ne_true]
  exact ac (p := [.s (nI p, [.lst (l.map aY)]), .s (nI q, [.lst (l.map aY)]), .b false]) (by kernel_rfl) (aI e1 (aI e2 (aI (tq hc) trivial)))
 ·rw [if_pos rfl]
  have e3 : aq (O (k + 2)) .append [.lst (l.map aY)] (.ptr 0) [.tup [nI ts, nI p, nI q]] = some (.none, [.lst ((l ++ [(ts, p, q)]).map aY)]) := bw rfl hl (by rw [List.map_append]; rfl)
  exact ac (p := [.s (nI p, [.lst (l.map aY)]), .s (nI q, [.lst (l.map aY)]), .b true, .skip 1, .s (nI p, [.lst (l.map aY)]), .s (nI q, [.lst (l.map aY)]), .s (.none, [.lst ((l ++ [(ts, p, q)]).map aY)])]) (by kernel_rfl) (aI e1 (aI e2 (aI (tq hc) (aI e1 (aI e2 (aI e3 trivial))))))
theorem DX (k : Nat) (s1 s2 : List Nat) (st1 st2 : WS) (σ : aa) (h1 : qN st1) (h2 : qN st2) : (O (k + 3)).meth 121 (S "not_equal_witness") [dA s1 st1, dA s2 st2] [] σ = some (.lst ((hO nZ st1 st2).map aY), σ) := by
 rw [gj (n := k + 2) (e := Hy) (by kernel_rfl), ← oe]
 have hn := mT h1 h2
 have hfor := cr nI (eR (dA s1 st1) (dA s2 st2) (ff st1 st2)) (bi nZ st1 st2) _ (EK k s1 s2 st1 st2 (ff st1 st2) h1 h2) (List.range' 1 (ff st1 st2)) [] (Fh _ _ (by rw [List.length_range']; simp only [List.length_nil]; lia) fun x hx => by
  have := List.mem_range'_1.mp hx
  lia)
 have e1 := eI k s1 st1 [] (by have := h1.2.1; lia)
 have e2 := eI k s2 st2 [] (by have := h2.2.1; lia)
 have e3 : D.int ((if ((l5 st1 : Nat) : Int) < (l5 st2 : Nat) then ((l5 st2 : Nat) : Int) else (l5 st1 : Nat)) + 1) = nI (ff st1 st2) := by
  delta ff nI
  congr 1
  split <;> lia
 have hpf : dO (((List.range' 1 (ff st1 st2)).foldl (bi nZ st1 st2) []).map aY) = true := bj (fun _ => rfl) _
 have hr : bx 1 ((ff st1 st2 : Nat) + 1 : Int) = (List.range' 1 (ff st1 st2)).map nI := gV 1 (ff st1 st2 + 1)
 have hk : bM 1 ((ff st1 st2 : Nat) + 1 : Int) = true := fA (a := 1) (b := ff st1 st2 + 1) (by decide) (by lia)
 delta uh
 rw [← hr] at hfor
 generalize (List.range' 1 (ff st1 st2)).foldl (bi nZ st1 st2) [] = l at *
 generalize ff st1 st2 = n at *
 refine aK (q := (.ret (.lst (l.map aY)), (eR (dA s1 st1) (dA s2 st2) n l).1, [.dead])) rfl (by simp only [lN, lM, rR, Bool.and_self]) ?_ rfl (by simp only [eU, eO, fC, eN, eT, eQ]; exact hpf)
 generalize l5 st1 = p at *
 generalize l5 st2 = q at *
 refine aw 2 (ρ₁ := (eR (dA s1 st1) (dA s2 st2) n []).1) (σ₁ := [.lst []]) ?_ ?_
 ·delta eR
  rw [← e3]
  exact ac (p := [.s (nI p, []), .s (nI q, [])]) (by kernel_rfl) (aI e1 (aI e2 trivial))
 refine bA (l := Gg) (by kernel_rfl) (lk := none) (items := bx 1 ((n : Int) + 1)) (σ₁ := [.lst []]) (ac (p := [.skip 0, .b true]) (by kernel_rfl) (aI hk trivial)) hfor rfl ?_
 exact ac (p := []) (by kernel_rfl) trivial
noncomputable abbrev Ed : Stmt := bC 6 7
noncomputable abbrev Gf : List Stmt := (av Ed).drop 2
noncomputable abbrev Hx : FE := ⟨118, Ed, [S "self", S "other"], 2, 0, []⟩
theorem EJ (k : Nat) (s1 s2 : List Nat) (st1 st2 : WS) (n : Nat) (h1 : qN st1) (h2 : qN st2) (l : List (Nat × Nat × Nat)) (ts : Nat) (h : 0 < ts ∧ ts ≤ 1000 ∧ l.length ≤ 1000) :
  (turn (am Ed) (ex (O (k + 2)) (am Ed) 2000 99) (cx Gf) (bN Gf) (nI ts) (eR (dA s1 st1) (dA s2 st2) n l).1 (eR (dA s1 st1) (dA s2 st2) n l).2).run = some (.next, eR (dA s1 st1) (dA s2 st2) n (bi mG st1 st2 l ts)) := by
 have e1 := iD k s1 st1 ts [.lst (l.map aY)] h.1 h.2.1 h1
 have e2 := iD k s2 st2 ts [.lst (l.map aY)] h.1 h.2.1 h2
 delta bi
 generalize gN ts st1 = p at *
 generalize gN ts st2 = q at *
 have hl : (l.map aY).length ≤ 100000 := by rw [List.length_map]; lia
 cases hc : mG p q
 ·rw [if_neg Bool.false_ne_true]
  exact ac (p := [.s (nI p, [.lst (l.map aY)]), .s (nI q, [.lst (l.map aY)]), .b false]) (by kernel_rfl) (aI e1 (aI e2 (aI (tp hc) trivial)))
 ·rw [if_pos rfl]
  have e3 : aq (O (k + 2)) .append [.lst (l.map aY)] (.ptr 0) [.tup [nI ts, nI p, nI q]] = some (.none, [.lst ((l ++ [(ts, p, q)]).map aY)]) := bw rfl hl (by rw [List.map_append]; rfl)
  exact ac (p := [.s (nI p, [.lst (l.map aY)]), .s (nI q, [.lst (l.map aY)]), .b true, .skip 1, .s (nI p, [.lst (l.map aY)]), .s (nI q, [.lst (l.map aY)]), .s (.none, [.lst ((l ++ [(ts, p, q)]).map aY)])]) (by kernel_rfl) (aI e1 (aI e2 (aI (tp hc) (aI e1 (aI e2 (aI e3 trivial))))))
theorem DW (k : Nat) (s1 s2 : List Nat) (st1 st2 : WS) (σ : aa) (h1 : qN st1) (h2 : qN st2) : (O (k + 3)).meth 121 (S "not_less_witness") [dA s1 st1, dA s2 st2] [] σ = some (.lst ((hO mG st1 st2).map aY), σ) := by
 rw [gj (n := k + 2) (e := Hx) (by kernel_rfl), ← oe]
 have hn := mT h1 h2
 have hfor := cr nI (eR (dA s1 st1) (dA s2 st2) (ff st1 st2)) (bi mG st1 st2) _ (EJ k s1 s2 st1 st2 (ff st1 st2) h1 h2) (List.range' 1 (ff st1 st2)) [] (Fh _ _ (by rw [List.length_range']; simp only [List.length_nil]; lia) fun x hx => by
  have := List.mem_range'_1.mp hx
  lia)
 have e1 := eI k s1 st1 [] (by have := h1.2.1; lia)
 have e2 := eI k s2 st2 [] (by have := h2.2.1; lia)
 have e3 : D.int ((if ((l5 st1 : Nat) : Int) < (l5 st2 : Nat) then ((l5 st2 : Nat) : Int) else (l5 st1 : Nat)) + 1) = nI (ff st1 st2) := by
  delta ff nI
  congr 1
  split <;> lia
 have hpf : dO (((List.range' 1 (ff st1 st2)).foldl (bi mG st1 st2) []).map aY) = true := bj (fun _ => rfl) _
 have hr : bx 1 ((ff st1 st2 : Nat) + 1 : Int) = (List.range' 1 (ff st1 st2)).map nI := gV 1 (ff st1 st2 + 1)
 have hk : bM 1 ((ff st1 st2 : Nat) + 1 : Int) = true := fA (a := 1) (b := ff st1 st2 + 1) (by decide) (by lia)
 delta uh
 rw [← hr] at hfor
 generalize (List.range' 1 (ff st1 st2)).foldl (bi mG st1 st2) [] = l at *
 generalize ff st1 st2 = n at *
 refine aK (q := (.ret (.lst (l.map aY)), (eR (dA s1 st1) (dA s2 st2) n l).1, [.dead])) rfl (by simp only [lN, lM, rR, Bool.and_self]) ?_ rfl (by simp only [eU, eO, fC, eN, eT, eQ]; exact hpf)
 generalize l5 st1 = p at *
 generalize l5 st2 = q at *
 refine aw 2 (ρ₁ := (eR (dA s1 st1) (dA s2 st2) n []).1) (σ₁ := [.lst []]) ?_ ?_
 ·delta eR
  rw [← e3]
  exact ac (p := [.s (nI p, []), .s (nI q, [])]) (by kernel_rfl) (aI e1 (aI e2 trivial))
 refine bA (l := Gf) (by kernel_rfl) (lk := none) (items := bx 1 ((n : Int) + 1)) (σ₁ := [.lst []]) (ac (p := [.skip 0, .b true]) (by kernel_rfl) (aI hk trivial)) hfor rfl ?_
 exact ac (p := []) (by kernel_rfl) trivial
end
section
noncomputable abbrev sX : Stmt := bG 67
noncomputable abbrev a1 : List Stmt := (av sX).drop 1
noncomputable abbrev a2 : List Stmt := (bN a1).drop 1
noncomputable abbrev a3 : List Stmt := (bN a1).drop 2
noncomputable abbrev a4 : List Stmt := (bN a1).drop 3
noncomputable abbrev a5 : List Stmt := (bN a1).drop 4
noncomputable abbrev uC : Expr := oG (fH (bN (wC a4)))
structure PE where
 s : List Nat
 w : List Nat
 b : List Nat
 a : Nat
 ks : List (List Nat)
noncomputable def ef (e : PE) : D := .lst [jy e.s, .str e.w, .str e.b, .ptr (e.a + 1)]
noncomputable def nh (P : List PE) : List D := (P.map ef).reverse
noncomputable abbrev xS (P : List PE) (τ : aa) : aa := .lst (nh P) :: τ
noncomputable def x0 (pg : List D) (t : List Nat) : aj := [(S "page", .lst pg), (S "pile", .ptr 0), (S "text", .str t)]
noncomputable def x1 (pg : List D) (t s : List Nat) (w : Int) (r : List Nat) : aj := [(S "page", .lst pg), (S "pile", .ptr 0), (S "text", .str t), (S "lead", jy s), (S "wire", .int w), (S "word", .str r)]
theorem fY (e : PE) (P : List PE) : nh (e :: P) = nh P ++ [ef e] := List.reverse_cons
theorem kF (P : List PE) : (nh P).length = P.length := by delta nh; rw [List.length_reverse, List.length_map]
theorem kN {o : aO} {σ : aa} {i : Nat} {l : List D} {x : D} (h : lstAt σ i = some (l ++ [x])) : al o σ (.ptr i) (.int (-1)) = some x := by
 delta al jf
 rw [show aC (.int (-1)) = some (-1) from rfl, Option.bind_some, bX h, Option.bind_some, show gd (iP (-1)) = some () from rfl, Option.bind_some]
 have : seqIndex? (-1) (l ++ [x]).length = some l.length := by
  unfold seqIndex?
  rw [List.length_append, List.length_singleton]
  have h0 : ((-1 : Int) < 0) := by decide
  simp only [h0, if_true]
  rw [if_pos (by rw [Bool.and_eq_true, decide_eq_true_iff, decide_eq_true_iff]; lia)]
  congr 1
  lia
 rw [this, Option.bind_some, List.getElem?_concat_length]
 rfl
theorem oY {o : aO} {σ σ' : aa} {i : Nat} {l : List D} {x : D} (h : lstAt σ i = some (l ++ [x])) (hl : l.length ≤ 100000) (h2 : σ.set i (.lst l) = σ') : aq o .pop σ (.ptr i) [] = some (x, σ') := by
 delta aq
 simp only [oO, Option.bind_some, List.isEmpty_nil]
 rw [h, Option.bind_some, decide_eq_true (by rw [List.length_append, List.length_singleton]; exact Nat.le_trans (Nat.add_le_add_right hl 1) (by decide)), List.getLast?_concat, List.dropLast_concat, ← h2]
 rfl
theorem pC {σ : aa} {a : D} {l : List D} (h : aF σ a = some l) (h1 : aC a = none) (h2 : aV a = none) (h3 : di a = none) : uc σ a (.lst []) = some l.isEmpty := by
 delta uc
 rw [h1, h2, h3, h]
 simp only [Option.bind_none, Option.none_or, Option.bind_some]
 cases l with
 | nil => rfl
 | cons x l => rfl
theorem nT {o : aO} {σ : aa} {a : D} {l : List D} {c : Bool} (h : aF σ a = some l) (h1 : aC a = none) (h2 : aV a = none) (h3 : di a = none) (hc : l.isEmpty = c) : cmp .Eq o σ a (.lst []) = some c := by
 show (uc σ a (.lst [])).map (false != ·) = _
 rw [pC h h1 h2 h3, hc]
 clear hc; cases c <;> rfl
theorem i8 {o : aO} {σ : aa} {a : D} {l : List D} {c : Bool} (h : aF σ a = some l) (h1 : aC a = none) (h2 : aV a = none) (h3 : di a = none) (hc : l.isEmpty = !c) : cmp .NotEq o σ a (.lst []) = some c := by
 show (uc σ a (.lst [])).map (true != ·) = _
 rw [pC h h1 h2 h3, hc]
 clear hc; cases c <;> rfl
theorem A5 (e : PE) (P : List PE) : (nh (e :: P)).isEmpty = false := by rw [fY]; cases nh P <;> rfl
theorem ko {o : aO} {e : PE} {P : List PE} {τ : aa} : al o (xS (e :: P) τ) (.ptr 0) (.int (-1)) = some (ef e) := kN (l := nh P) (by rw [← fY]; rfl)
theorem n5 {o : aO} {e : PE} {P : List PE} {τ : aa} : cmp .NotEq o (xS (e :: P) τ) (.ptr 0) (.lst []) = some true := i8 (l := nh (e :: P)) rfl rfl rfl rfl (A5 e P)
theorem oU {o : aO} {τ : aa} : cmp .NotEq o (xS [] τ) (.ptr 0) (.lst []) = some false := i8 (l := []) rfl rfl rfl rfl rfl
noncomputable def fc (A : List PE) : List Nat := (A.map PE.b).flatten
theorem qY (k : Nat) (pg : List D) (X s : List Nat) (w : Int) (r : List Nat) (e : PE) (P : List PE) (τ : aa) (h1 : e.s.length ≤ 50) (h2 : s.length ≤ 50) {c : Bool} (hc : (hO mG (aE e.s) (aE s)).isEmpty = !c) :
  ((aD (O (k + 3)) 98 (am sX)).2 (cx a2) (x1 pg X s w r) (xS (e :: P) τ)).run = some (c, xS (e :: P) τ) := by
 have e1 := n5 (o := O (k + 3)) (e := e) (P := P) (τ := τ)
 have e2 := ko (o := O (k + 3)) (e := e) (P := P) (τ := τ)
 have e3 := DW k e.s s (aE e.s) (aE s) (xS (e :: P) τ) (dj h1) (dj h2)
 have e4 : cmp .NotEq (O (k + 3)) (xS (e :: P) τ) (.lst ((hO mG (aE e.s) (aE s)).map aY)) (.lst []) = some c := i8 (l := (hO mG (aE e.s) (aE s)).map aY) rfl rfl rfl rfl (by rw [← hc]; cases (hO mG (aE e.s) (aE s)) <;> rfl)
 generalize (hO mG (aE e.s) (aE s)).map aY = ws at *
 exact ac (p := [.b true, .skip 0, .d (ef e), .skip 0, .s (.lst ws, xS (e :: P) τ), .b c]) (by cases c <;> kernel_rfl) (aI e1 (aI e2 (aI e3 (aI e4 trivial))))
theorem ug (k : Nat) (pg : List D) (X s : List Nat) (w : Int) (r : List Nat) (τ : aa) : ((aD (O (k + 3)) 98 (am sX)).2 (cx a2) (x1 pg X s w r) (xS [] τ)).run = some (false, xS [] τ) :=
 ac (p := [.b false]) (g := cmp .NotEq (O (k + 3)) (xS [] τ) (.ptr 0) (.lst []) = some false ∧ True) (by kernel_rfl) ⟨oU, trivial⟩
theorem A0 (k : Nat) (pg : List D) (X s : List Nat) (w : Int) (r : List Nat) (e : PE) (P : List PE) (τ : aa) (h1 : P.length ≤ 1000) (h2 : X.length + e.b.length ≤ 1000) :
  (ba (ex (O (k + 3)) (am sX) 2000 98) (bN a2) (x1 pg X s w r) (xS (e :: P) τ)).run = some (.next, x1 pg (X ++ e.b) s w r, xS P τ) := by
 have e1 : aq (O (k + 3)) .pop (xS (e :: P) τ) (.ptr 0) [] = some (ef e, xS P τ)   := oY (l := nh P) (by rw [← fY]; rfl) (by rw [kF]; lia) rfl
 have e2 := mJ (x := X) (y := e.b) (by lia)
 generalize X ++ e.b = Y at *
 exact ac (p := [.skip 0, .s (ef e, xS P τ), .skip 0, .d (.str Y)]) (by kernel_rfl) (aI e1 (aI e2 trivial))
noncomputable def oC (s : List Nat) (B : List PE) : Prop := match B with | [] => True | p :: _ => AM p.s s ∧ p.s.length ≤ 50
theorem n8 (k : Nat) (pg : List D) (s : List Nat) (w : Int) (r : List Nat) (B : List PE) (τ : aa) (hs : s.length ≤ 50) (hB : oC s B) : ∀ (A : List PE) (X : List Nat) (m : Nat), (∀ e ∈ A, cf 1 0 s ≤ cf 1 0 e.s ∧ e.s.length ≤ 50) → A.length < m → A.length + B.length ≤ 1000 → X.length + (fc A).length ≤ 1000 →
  (cz (aD (O (k + 3)) 98 (am sX)).2 (ex (O (k + 3)) (am sX) 2000 98) (cx a2) (bN a2) m (x1 pg X s w r) (xS (A ++ B) τ)).run = some (.next, x1 pg (X ++ fc A) s w r, xS B τ)
 | _, _, 0, _, h, _, _ => by cases h
 | [], X, m + 1, _, _, _, _ => by
  have e : X ++ fc [] = X := List.append_nil X
  rw [e]
  cases B with
  | nil => exact cG (ug k pg X s w r τ)
  | cons p B => exact cG (qY k pg X s w r p B τ hB.2 hs (c := false) (by rw [xc hB.1]; rfl))
 | e :: A, X, m + 1, hA, hm, hl, hx => by
  have h1 := hA e (List.mem_cons_self ..)
  have hb : fc (e :: A) = e.b ++ fc A := rfl
  rw [hb, List.length_append] at hx
  rw [List.length_cons] at hm hl
  rw [hb, ← List.append_assoc]
  refine (fo (qY k pg X s w r e (A ++ B) τ h1.2 hs (c := true) (q6 h1.1)) (A0 k pg X s w r e (A ++ B) τ (by rw [List.length_append]; lia) (by lia))).trans ?_
  exact n8 k pg s w r B τ hs hB A (X ++ e.b) m (fun e he => hA e (List.mem_cons_of_mem _ he)) (by lia) (by lia) (by rw [List.length_append]; lia)
end
section
theorem oN {o : aO} {P : List PE} {τ : aa} (e : PE) (ha : e.a = τ.length) (hl : P.length ≤ 1000) : aq o .append (.lst (nh P) :: (τ ++ [SO.lst []])) (.ptr 0) [.lst [jy e.s, .str e.w, .str e.b, .ptr (τ.length + 1)]] = some (.none, xS (e :: P) (τ ++ [SO.lst []])) :=
 bw (l := nh P) rfl (by rw [kF]; lia) (by delta xS; rw [fY]; delta ef; rw [ha]; rfl)
noncomputable def G6 (d : Option D) : aj := match d with | none => [] | some d => [(S "turned", d), (S "alike", .bool true)]
noncomputable def x2 (pg : List D) (t s : List Nat) (w : Int) (r ab : List Nat) (d : Option D) : aj := x1 pg t s w r ++ (S "above", .str ab) :: G6 d
theorem w8 (k : Nat) (pg : List D) (X s : List Nat) (w : Nat) (r ab : List Nat) (d : Option D) (P : List PE) (τ : aa) (hl : P.length ≤ 1000) (hx : X.length + r.length ≤ 1000) :
  (ba (ex (O (k + 1)) (am sX) 2000 99) a5 (x2 pg X s w r ab d) (xS P τ)).run = some (.next, x2 pg (X ++ r) s w r ab d, xS (⟨s, [], [], τ.length, []⟩ :: P) (τ ++ [SO.lst []])) := by
 have e1 := mJ (x := X) (y := r) (by lia)
 have e2 := oN (o := O (k + 1)) (P := P) (τ := τ) ⟨s, [], [], τ.length, []⟩ rfl hl
 generalize X ++ r = Y at *
 generalize he : xS (⟨s, [], [], τ.length, []⟩ :: P) (τ ++ [SO.lst []]) = σ' at *
 cases d <;> exact ac (p := [.skip 1, .d (.str Y), .skip 0, .s (.none, σ')]) (by kernel_rfl) (aI e1 (aI e2 trivial))
noncomputable def zQ (q : Option Bool) : List Nat := match q with | none => [] | some b => cw b
noncomputable def eZ (q : Option Bool) : Bool := match q with | some true => true | _ => false
noncomputable def wn (c : Bool) : List Nat := if c then [40] else []
noncomputable def cls (c : Bool) : List Nat := if c then [41] else []
noncomputable def x3 (pg : List D) (t s : List Nat) (w : Int) (r ab : List Nat) (d : Option D) (c : Bool) : aj := x2 pg t s w r ab d ++ [(S "bracket", .bool c)]
theorem w4 (k : Nat) (pg : List D) (X s : List Nat) (sg : Bool) (q : Option Bool) (d : Option D) (P : List PE) (τ : aa) (hl : P.length ≤ 1000) (hx : X.length + 1 ≤ 1000) :
  (ba (ex (O (k + 1)) (am sX) 2000 99) a5 (x2 pg X s (-1) (cw sg) (zQ q) d) (xS P τ)).run = some (.next, x3 pg (X ++ wn (eZ q && !sg)) s (-1) (cw sg) (zQ q) d (eZ q && !sg), xS (⟨s, cw sg, cls (eZ q && !sg), τ.length, []⟩ :: P) (τ ++ [SO.lst []])) := by
 have e1 := mJ (x := X) (y := wn (eZ q && !sg)) (by delta wn; split <;> simp only [List.length_cons, List.length_nil] <;> lia)
 have e2 := oN (o := O (k + 1)) (P := P) (τ := τ) ⟨s, cw sg, cls (eZ q && !sg), τ.length, []⟩ rfl hl
 generalize X ++ wn (eZ q && !sg) = Y at *
 generalize he : xS (⟨s, cw sg, cls (eZ q && !sg), τ.length, []⟩ :: P) (τ ++ [SO.lst []]) = σ' at *
 refine ac (p := [.skip (bif eZ q then 7 else 6), .d (.str Y), .skip 2, .s (.none, σ')]) ?_ (aI e1 (aI e2 trivial))
 clear e1 e2 he
 rcases q with _ | _ | _ <;> cases sg <;> cases d <;> kernel_rfl
theorem w7 (k : Nat) (pg : List D) (X s : List Nat) (w : Int) (r : List Nat) (τ : aa) : (ba (ex (O (k + 1)) (am sX) 2000 99) (a3.take 2) (x1 pg X s w r) (xS [] τ)).run = some (.next, x2 pg X s w r [] none, xS [] τ) := by
 have e := oU (o := O (k + 1)) (τ := τ)
 exact ac (p := [.b false, .skip 0, .b false, .skip 1, .b false]) (by kernel_rfl) (aI e (aI e (aI e trivial)))
theorem w6 (k : Nat) (pg : List D) (X s : List Nat) (w : Int) (r : List Nat) (p : PE) (B : List PE) (τ : aa) (hk : p.ks = []) (hτ : lstAt τ p.a = some (p.ks.map jy)) :
  (ba (ex (O (k + 1)) (am sX) 2000 99) (a3.take 2) (x1 pg X s w r) (xS (p :: B) τ)).run = some (.next, x2 pg X s w r p.w none, xS (⟨p.s, p.w, p.b, p.a, [s]⟩ :: B) (τ.set p.a (.lst [jy s]))) := by
 have e1 := n5 (o := O (k + 1)) (e := p) (P := B) (τ := τ)
 have e2 := ko (o := O (k + 1)) (e := p) (P := B) (τ := τ)
 rw [hk] at hτ
 have hτ' : lstAt (xS (p :: B) τ) (p.a + 1) = some [] := hτ
 have e3 : cmp .Eq (O (k + 1)) (xS (p :: B) τ) (.ptr (p.a + 1)) (.lst []) = some true := nT (l := []) (iy hτ') rfl rfl rfl rfl
 have e4 : some (lstAt (xS (p :: B) τ) (p.a + 1)).isSome = some true := by rw [hτ']; rfl
 have e5 : aq (O (k + 1)) .append (xS (p :: B) τ) (.ptr (p.a + 1)) [jy s] = some (.none, xS (⟨p.s, p.w, p.b, p.a, [s]⟩ :: B) (τ.set p.a (.lst [jy s]))) := bw (l := []) hτ' (by decide) rfl
 generalize xS (⟨p.s, p.w, p.b, p.a, [s]⟩ :: B) (τ.set p.a (.lst [jy s])) = σ' at *
 exact ac (p := [.b true, .skip 0, .d (ef p), .skip 0, .b true, .skip 0, .d (ef p), .skip 0, .b true, .skip 1, .d (ef p), .skip 0, .b true, .s (.none, σ')]) (by kernel_rfl) (aI e1 (aI e2 (aI e1 (aI e2 (aI e3 (aI e2 (aI e4 (aI e5 trivial))))))))
theorem w3 (k : Nat) (pg : List D) (X s : List Nat) (w : Int) (r : List Nat) (p : PE) (B : List PE) (τ : aa) (h1 : p.s.length ≤ 50) (h2 : s.length ≤ 50) :
  (cX (O (k + 3)) (am sX) 95 uC (x2 pg X s w r p.w none) (xS (p :: B) τ)).run = some (.lst (((hO nZ (aE p.s) (aE s)).map fun t => (t.1, t.2.2, t.2.1)).map aY), xS (p :: B) τ) := by
 have e1 := ko (o := O (k + 3)) (e := p) (P := B) (τ := τ)
 have e2 := DX k p.s s (aE p.s) (aE s) (xS (p :: B) τ) (dj h1) (dj h2)
 have hl : (hO nZ (aE p.s) (aE s)).length ≤ cC := by
  delta hO
  rw [List.length_map]
  refine Nat.le_trans (List.length_filter_le _ _) ?_
  rw [List.length_range']
  exact Nat.le_trans (mT (dj h1) (dj h2)) (by decide)
 have := aM (o := O (k + 3)) (f := am sX) (n := 95) (e := uC) (lk := none) (ρ := x2 pg X s w r p.w none) (σ := xS (p :: B) τ) (σ₁ := xS (p :: B) τ) (σ₂ := xS (p :: B) τ) aY (fun t => some (aY (t.1, t.2.2, t.2.1))) (hO nZ (aE p.s) (aE s)) (by kernel_rfl) ?_ hl (fun t _ => ac (p := []) (by kernel_rfl) trivial) rfl
 ·rw [this, List.filterMap_eq_map', List.map_map]; rfl
 ·generalize (hO nZ (aE p.s) (aE s)).map aY = ws at *
  exact ac (p := [.d (ef p), .skip 0, .s (.lst ws, xS (p :: B) τ)]) (by kernel_rfl) (aI e1 (aI e2 trivial))
theorem Hf (l : List (Nat × Nat × Nat)) : fE (rP 3) (l.map aY) = some (l.map fun t => .tuple [.int t.1, .int t.2.1, .int t.2.2]) := by
 induction l with
 | nil => rfl
 | cons t l ih =>
  rw [List.map_cons]
  unfold fE
  rw [ih]
  rfl
theorem Hw {o : aO} {σ : aa} (l : List (Nat × Nat × Nat)) : cmp .Eq o σ (.lst (l.map aY)) (.lst (l.map aY)) = some true := by
 have h : rP 4 (.lst (l.map aY)) = some (.list (l.map fun t => .tuple [.int t.1, .int t.2.1, .int t.2.2])) := by
  show (none : Option PyData).or ((none : Option PyData).or ((fE (rP 3) (l.map aY)).map PyData.list)) = _
  rw [Hf]; rfl
 have h2 : PyData.eqv (.list (l.map fun t => .tuple [.int t.1, .int t.2.1, .int t.2.2])) (.list (l.map fun t => .tuple [.int t.1, .int t.2.1, .int t.2.2])) = true := by
  refine SeqAt.eqv_refl _ ?_
  have : ∀ l : List (Nat × Nat × Nat), PyData.canLayAll0 (l.map fun t => .tuple [.int t.1, .int t.2.1, .int t.2.2]) = true := fun l => by
   induction l with
   | nil => rfl
   | cons t l ih => simp only [List.map_cons, PyData.canLayAll0, PyData.canLay0, ih, Bool.and_self]
  simp only [PyData.canLay0, this]
 show (Mine.eqL (l.map aY) (l.map aY)).map (false != ·) = _
 delta Mine.eqL DM
 rw [h]
 simp only [Option.bind_some, Option.map_some, h2, bne_self_eq_false, Bool.false_eq_true, if_false]
 rfl
end
section
theorem w5 (k : Nat) (pg : List D) (X s : List Nat) (w : Int) (r f : List Nat) (p : PE) (B : List PE) (τ : aa) (hk : p.ks = [f]) (hτ : lstAt τ p.a = some (p.ks.map jy)) (h1 : p.s.length ≤ 50) (h2 : s.length ≤ 50) (h3 : f.length ≤ 50) (hlt : AM p.s s) (heq : En f s) (hx : X.length + p.w.length ≤ 1000) :
  ∃ d, (ba (ex (O (k + 3)) (am sX) 2000 99) (a3.take 2) (x1 pg X s w r) (xS (p :: B) τ)).run = some (.next, x2 pg (X ++ p.w) s w r p.w (some d), xS (p :: B) τ) := by
 have e1 := n5 (o := O (k + 3)) (e := p) (P := B) (τ := τ)
 have e2 := ko (o := O (k + 3)) (e := p) (P := B) (τ := τ)
 rw [hk] at hτ
 have hτ' : lstAt (xS (p :: B) τ) (p.a + 1) = some [jy f] := hτ
 have e3 : cmp .Eq (O (k + 3)) (xS (p :: B) τ) (.ptr (p.a + 1)) (.lst []) = some false := nT (l := [jy f]) (iy hτ') rfl rfl rfl rfl
 have e4 := w3 k pg X s w r p B τ h1 h2
 rw [q5 hlt] at e4
 have e5 : al (O (k + 3)) (xS (p :: B) τ) (.ptr (p.a + 1)) (nI 0) = some (jy f) := bZ (l := [jy f]) (i := 0) (bX hτ') rfl (by decide)
 have e6 := DX k f s (aE f) (aE s) (xS (p :: B) τ) (dj h3) (dj h2)
 rw [xd heq] at e6
 have e7 := DW k s p.s (aE s) (aE p.s) (xS (p :: B) τ) (dj h2) (dj h1)
 have e8 : cmp .Eq (O (k + 3)) (xS (p :: B) τ) (.lst ([].map aY)) (.lst []) = some true := nT (l := []) rfl rfl rfl rfl rfl
 have e9 := Hw (o := O (k + 3)) (σ := xS (p :: B) τ) (hO mG (aE s) (aE p.s))
 have e10 := mJ (x := X) (y := p.w) (by lia)
 generalize (hO mG (aE s) (aE p.s)).map aY = vs at *
 generalize X ++ p.w = Y at *
 refine ⟨.lst vs, ?_⟩
 exact ac (p := [.b true, .skip 0, .d (ef p), .skip 0, .b true, .skip 0, .d (ef p), .skip 0, .b false, .skip 1, .b true, .skip 0, .s (.lst vs, xS (p :: B) τ), .d (ef p), .skip 0, .d (jy f), .s (.lst ([].map aY), xS (p :: B) τ), .b true, .skip 1, .d (ef p), .skip 0, .s (.lst vs, xS (p :: B) τ), .b true, .skip 1, .d (.str Y)]) (by kernel_rfl) (aI e1 (aI e2 (aI e1 (aI e2 (aI e3 (aI e1 (aI e4 (aI e2 (aI e5 (aI e6 (aI e8 (aI e2 (aI e7 (aI e9 (aI e10 trivial)))))))))))))))
inductive zT (s : List Nat) (τ : aa) : List PE → Option Bool → List Nat → List PE → aa → Prop
 | root : zT s τ [] none [] [] τ
 | first {p B b} (hw : p.w = cw b) (hk : p.ks = []) : zT s τ (p :: B) (some b) [] (⟨p.s, p.w, p.b, p.a, [s]⟩ :: B) (τ.set p.a (.lst [jy s]))
 | snd {p B b f} (hw : p.w = cw b) (hk : p.ks = [f]) (h3 : f.length ≤ 50) (he : En f s) : zT s τ (p :: B) (some b) (cw b) (p :: B) τ
theorem A3 (k : Nat) (pg : List D) (X s : List Nat) (w : Int) (r : List Nat) {B B' : List PE} {τ τ' : aa} {q : Option Bool} {sep : List Nat} (hm : zT s τ B q sep B' τ') (hτ : ∀ e ∈ B, lstAt τ e.a = some (e.ks.map jy)) (hB : oC s B) (hs : s.length ≤ 50) (hx : X.length + sep.length ≤ 1000) :
  ∃ d, (ba (ex (O (k + 3)) (am sX) 2000 99) (a3.take 2) (x1 pg X s w r) (xS B τ)).run = some (.next, x2 pg (X ++ sep) s w r (zQ q) d, xS B' τ') := by
 cases hm with
 | root => exact ⟨none, by rw [List.append_nil]; exact w7 (k + 2) pg X s w r τ⟩
 | first hw hk => exact ⟨none, by rw [List.append_nil, show zQ (some _) = _ from hw.symm]; exact w6 (k + 2) pg X s w r _ _ τ hk (hτ _ (List.mem_cons_self ..))⟩
 | snd hw hk h3 he =>
  rw [← hw] at hx
  obtain ⟨d, h⟩ := w5 k pg X s w r _ _ _ τ hk (hτ _ (List.mem_cons_self ..)) hB.2 hs h3 hB.1 he hx
  exact ⟨some d, by rw [show zQ (some _) = _ from hw.symm, ← hw]; exact h⟩
noncomputable def aA (r : mS) : D := .lst [.str r.1, .int r.2.1, .str r.2.2]
theorem v7 (k : Nat) (pg : List D) (X l : List Nat) (w : Int) (r : List Nat) {A B B' : List PE} {τ τ' : aa} {q : Option Bool} {sep Y : List Nat} {e : PE} (hm : zT (l ++ r) (τ ++ [SO.dead]) B q sep B' τ') (hτ : ∀ e ∈ B, lstAt τ e.a = some (e.ks.map jy)) (hB : oC (l ++ r) B) (hs : (l ++ r).length ≤ 50)
  (hA : ∀ e ∈ A, cf 1 0 (l ++ r) ≤ cf 1 0 e.s ∧ e.s.length ≤ 50) (hl : A.length + B.length ≤ 1000) (hx : X.length + (fc A).length + sep.length ≤ 1000)
  (hn : ∀ d, ∃ ρ', (ba (ex (O (k + 3)) (am sX) 2000 99) a5 (x2 pg (X ++ fc A ++ sep) (l ++ r) w r (zQ q) d) (xS B' τ')).run = some (.next, x0 pg Y ++ ρ', xS (e :: B') (τ' ++ [SO.lst []]))) :
  (turn (am sX) (ex (O (k + 3)) (am sX) 2000 99) (cx a1) (bN a1) (aA (l, w, r)) (x0 pg X) (xS (A ++ B) τ)).run = some (.next, x0 pg Y, xS (e :: B') (τ' ++ [SO.lst []])) := by
 have hτ2 : ∀ e ∈ B, lstAt (τ ++ [SO.dead]) e.a = some (e.ks.map jy) := fun e he => by
  have h := hτ e he
  unfold lstAt at h ⊢
  rw [List.getElem?_append_left (List.getElem?_eq_some_iff.mp (bY (hτ e he))).1]
  exact h
 obtain ⟨d, h3⟩ := A3 k pg (X ++ fc A) (l ++ r) w r hm hτ2 hB hs (by rw [List.length_append]; lia)
 obtain ⟨ρ', h4⟩ := hn d
 have h2 := n8 k pg (l ++ r) w r B (τ ++ [SO.dead]) hs hB A X 2000 hA (by lia) hl (by lia)
 have e1 := ln (σ := xS (A ++ B) τ) (x := l) (y := r) (by rw [List.length_append] at hs; lia)
 have e2 := Gx (k + 1) (l ++ r) (xS (A ++ B) τ) (Nat.le_trans hs (by decide))
 have h1 : (ba (ex (O (k + 3)) (am sX) 2000 99) ((bN a1).take 1) (x0 pg X ++ [(S "lead", .str l), (S "wire", .int w), (S "word", .str r)]) (xS (A ++ B) τ)).run = some (.next, x1 pg X (l ++ r) w r, xS (A ++ B) (τ ++ [SO.dead])) := by
  generalize l ++ r = s at *
  exact ac (p := [.d (.str s), .s (jy s, xS (A ++ B) (τ ++ [SO.dead]))]) (g := aB .Add (xS (A ++ B) τ) (.str l) (.str r) = some (.str s) ∧ ((O (k + 3)).new (S "Whitespace") [.str s] (xS (A ++ B) τ)).or ((O (k + 3)).fn (S "Whitespace") [.str s] (xS (A ++ B) τ)) = some (jy s, xS (A ++ B) (τ ++ [SO.dead])) ∧ True) (by kernel_rfl) ⟨e1, by rw [e2]; rfl, trivial⟩
 refine fQ (ρ₁ := x0 pg X ++ [(S "lead", .str l), (S "wire", .int w), (S "word", .str r)]) (by kernel_rfl) (aw 1 h1 (g7 (l := a2) (by kernel_rfl) h2 (aw 2 h3 h4))) (by rfl)
end
section
noncomputable def IP (τ : aa) (P : List PE) : Prop := P.Pairwise (fun e f => f.a < e.a) ∧ ∀ e ∈ P, lstAt τ e.a = some (e.ks.map jy)
theorem IP.lt {τ : aa} {P : List PE} (h : IP τ P) {e : PE} (he : e ∈ P) : e.a < τ.length := (List.getElem?_eq_some_iff.mp (bY (h.2 e he))).1
theorem IP.right {τ : aa} {A B : List PE} (h : IP τ (A ++ B)) : IP τ B := ⟨(List.pairwise_append.mp h.1).2.1, fun e he => h.2 e (List.mem_append_right _ he)⟩
theorem jV {τ σ : aa} {i : Nat} {l : List D} (h : lstAt τ i = some l) : lstAt (τ ++ σ) i = some l := by
 have h2 := (List.getElem?_eq_some_iff.mp (bY h)).1
 unfold lstAt at h ⊢
 rw [List.getElem?_append_left h2]
 exact h
theorem IP.app {τ σ : aa} {P : List PE} (h : IP τ P) : IP (τ ++ σ) P := ⟨h.1, fun e he => jV (h.2 e he)⟩
theorem IP.push {τ : aa} {P : List PE} (h : IP τ P) (e : PE) (ha : e.a = τ.length) (hk : e.ks = []) : IP (τ ++ [SO.lst []]) (e :: P) := by
 refine ⟨List.pairwise_cons.mpr ⟨fun f hf => by rw [ha]; exact h.lt hf, h.1⟩, fun f hf => ?_⟩
 rcases List.mem_cons.mp hf with rfl | hf
 ·unfold lstAt
  rw [ha, List.getElem?_concat_length, hk]; rfl
 ·exact jV (h.2 f hf)
theorem IP.mid {s : List Nat} {τ : aa} {B : List PE} {q : Option Bool} {sep : List Nat} {B' : List PE} {τ' : aa} (h : IP τ B) (hm : zT s τ B q sep B' τ') : IP τ' B' ∧ B'.length = B.length := by
 cases hm with
 | root => exact ⟨h, rfl⟩
 | snd => exact ⟨h, rfl⟩
 | first hw hk =>
  rename_i p B b
  have hp := List.pairwise_cons.mp h.1
  refine ⟨⟨List.pairwise_cons.mpr ⟨hp.1, hp.2⟩, fun e he => ?_⟩, rfl⟩
  unfold lstAt
  rcases List.mem_cons.mp he with rfl | he
  ·rw [List.getElem?_set_self (h.lt (List.mem_cons_self ..))]; rfl
  ·rw [List.getElem?_set_ne (Nat.ne_of_gt (hp.1 e he))]
   exact h.2 e (List.mem_cons_of_mem _ he)
theorem vZ (A B : List PE) : fc (A ++ B) = fc A ++ fc B := by unfold fc; rw [List.map_append, List.flatten_append]
inductive TM (k : Nat) (pg : List D) (wd : Nat → List Nat) (t : Tr) (A B B' : List PE) (τ : aa) (X sep : List Nat) (q : Option Bool) : Prop
 | mk (A' : List PE) (τ₂ : aa) (X' : List Nat) (h1 : (∀ rest, (cV (am sX) (ex (O (k + 3)) (am sX) 2000 99) (cx a1) (bN a1) ((bu wd t).map aA ++ rest) (x0 pg X) (xS (A ++ B) τ)).run = (cV (am sX) (ex (O (k + 3)) (am sX) 2000 99) (cx a1) (bN a1) rest (x0 pg X') (xS (A' ++ B') τ₂)).run)) (h2 : X' ++ fc A' = X ++ (fc A ++ (sep ++ tx wd (eZ q) t))) (h3 : (∀ e ∈ A', cf 1 0 (t.str wd) ≤ cf 1 0 e.s ∧ e.s.length ≤ 50)) (h4 : IP τ₂ (A' ++ B')) (h5 : A'.length ≤ t.size)
theorem gP (k : Nat) (pg : List D) (wd : Nat → List Nat) : ∀ (t : Tr) (A B B' : List PE) (τ τ' : aa) (X sep : List Nat) (q : Option Bool), good wd t → IP τ (A ++ B) → (∀ e ∈ A, cf 1 0 (t.str wd) ≤ cf 1 0 e.s ∧ e.s.length ≤ 50) → oC (t.str wd) B →
  zT (t.str wd) (τ ++ [SO.dead]) B q sep B' τ' → A.length + B.length + t.size ≤ 900 → (X ++ (fc A ++ (sep ++ tx wd (eZ q) t))).length ≤ 900 →
  TM k pg wd t A B B' τ X sep q
 | .leaf l w, A, B, B', τ, τ', X, sep, q, hg, hI, hA, hB, hm, hl, hx => by
  obtain ⟨hI', hBl⟩ := hI.right.app.mid hm
  simp only [List.length_append, tx, Tr.size] at hx hl
  have hrow := v7 k pg X l w (wd w) (e := ⟨l ++ wd w, [], [], τ'.length, []⟩) (Y := X ++ fc A ++ sep ++ wd w) hm hI.right.2 hB hg hA (by lia) (by lia) fun d => ⟨_, w8 (k + 2) pg (X ++ fc A ++ sep) (l ++ wd w) w (wd w) (zQ q) d B' τ' (by lia) (by simp only [List.length_append]; lia)⟩
  refine ⟨[⟨l ++ wd w, [], [], τ'.length, []⟩], τ' ++ [SO.lst []], X ++ fc A ++ sep ++ wd w, fun rest => ?_, ?_, fun e he => ?_, hI'.push _ rfl rfl, Nat.le_refl 1⟩
  ·exact au hrow
  ·show _ ++ [] = _
   rw [List.append_nil]
   simp only [tx, List.append_assoc]
  ·rw [List.mem_singleton.mp he]
   exact ⟨Nat.le_refl _, hg⟩
 | .node l sg a b, A, B, B', τ, τ', X, sep, q, hg, hI, hA, hB, hm, hl, hx => by
  obtain ⟨hI', hBl⟩ := hI.right.app.mid hm
  obtain ⟨hg1, hg2, hg3, hg4, hg5, hg6⟩ := hg
  simp only [Tr.size] at hl
  have hx2 := hx
  simp only [List.length_append, tx] at hx2
  have hrow := v7 k pg X l (-1) (cw sg) (e := ⟨l ++ cw sg, cw sg, cls (eZ q && !sg), τ'.length, []⟩) (Y := X ++ fc A ++ sep ++ wn (eZ q && !sg)) hm hI.right.2 hB hg1 hA (by lia) (by lia) fun d => ⟨_, w4 (k + 2) pg (X ++ fc A ++ sep) (l ++ cw sg) sg q d B' τ' (by lia) (by simp only [List.length_append]; cases sg <;> simp only [cw, if_true, Bool.false_eq_true, if_false, List.length_cons, List.length_nil] at hx2 <;> lia)⟩
  have hIe := hI'.push ⟨l ++ cw sg, cw sg, cls (eZ q && !sg), τ'.length, []⟩ rfl rfl
  generalize hc : (eZ q && !sg) = c at *
  have htx : X ++ fc A ++ sep ++ wn c ++ (tx wd sg a ++ (cw sg ++ (tx wd sg b ++ cls c))) = X ++ (fc A ++ (sep ++ tx wd (eZ q) (.node l sg a b))) := by
   simp only [tx, hc, List.append_assoc]; rfl
  have hlen : (X ++ fc A ++ sep ++ wn c ++ (tx wd sg a ++ (cw sg ++ (tx wd sg b ++ cls c)))).length ≤ 900 := by rw [htx]; exact hx
  generalize X ++ fc A ++ sep ++ wn c = Y at *
  have hsg : eZ (some sg) = sg := by cases sg <;> rfl
  obtain ⟨A1, τ1, X1, r1, r2, r3, r4, r5⟩ := gP k pg wd a [] (⟨l ++ cw sg, cw sg, cls c, τ'.length, []⟩ :: B') (⟨l ++ cw sg, cw sg, cls c, τ'.length, [a.str wd]⟩ :: B') (τ' ++ [SO.lst []]) _ Y [] (some sg) hg2 hIe (fun e he => by cases he) ⟨hg4, hg1⟩ (.first rfl rfl) (by simp only [List.length_nil, List.length_cons]; lia) (by
   rw [hsg]
   simp only [List.length_append, fc, List.map_nil, List.flatten_nil, List.length_nil] at hlen ⊢
   lia)
  rw [hsg] at r2
  have r2 : X1 ++ fc A1 = Y ++ tx wd sg a := r2
  have hlen2 : X1.length + (fc A1).length = Y.length + (tx wd sg a).length := by rw [← List.length_append, r2, List.length_append]
  obtain ⟨A2, τ2, X2, t1, t2, t3, t4, t5⟩ := gP k pg wd b A1 (⟨l ++ cw sg, cw sg, cls c, τ'.length, [a.str wd]⟩ :: B') (⟨l ++ cw sg, cw sg, cls c, τ'.length, [a.str wd]⟩ :: B') τ1 _ X1 (cw sg) (some sg) hg3 r4 (fun e he => by rw [← hg6 1 Nat.one_pos]; exact r3 e he) ⟨hg5, hg1⟩ (.snd rfl rfl (sN hg2) hg6) (by simp only [List.length_cons]; lia) (by
   rw [hsg]
   simp only [List.length_append] at hlen ⊢
   lia)
  rw [hsg] at t2
  refine ⟨A2 ++ [⟨l ++ cw sg, cw sg, cls c, τ'.length, [a.str wd]⟩], τ2, X2, fun rest => ?_, ?_, fun e he => ?_, by rw [List.append_assoc]; exact t4, ?_⟩
  ·show (cV _ _ _ _ (aA (l, -1, cw sg) :: ((bu wd a ++ bu wd b).map aA ++ rest)) _ _).run = _
   rw [au hrow, List.map_append, List.append_assoc]
   refine (r1 _).trans ?_
   rw [t1, List.append_assoc]; rfl
  ·rw [vZ, ← List.append_assoc, t2, ← htx, ← List.append_assoc X1, r2]
   simp only [List.append_assoc]
   congr 4
   show cls c ++ [] = _
   rw [List.append_nil]
  ·rcases List.mem_append.mp he with he | he
   ·have := t3 e he
    exact ⟨Nat.le_trans (Nat.le_of_lt (hg5 1 Nat.one_pos)) this.1, this.2⟩
   ·rw [List.mem_singleton.mp he]
    exact ⟨Nat.le_refl _, hg1⟩
  ·rw [List.length_append, List.length_singleton]
   simp only [Tr.size]
   lia
end
section
noncomputable abbrev uJ : Expr := rZ (oG (fH a1.tail)) [1, 1]
noncomputable abbrev eX : FE := ⟨289, sX, [S "page"], 1, 0, []⟩
theorem A4 (k : Nat) (pg : List D) (X : List Nat) (P : List PE) (τ : aa) (hl : P.length ≤ 1000) : (cX (O (k + 1)) (am sX) 96 uJ (x0 pg X) (xS P τ)).run = some (.lst ((P.map PE.b).map .str), xS P τ) := by
 have hr : (nh P).reverse = P.map ef := List.reverse_reverse _
 have := aM (o := O (k + 1)) (f := am sX) (n := 96) (e := uJ) (lk := none) (ρ := x0 pg X) (σ := xS P τ) (σ₁ := xS P τ) (σ₂ := xS P τ) ef (fun e => some (.str e.b)) P (by kernel_rfl) ?_ (Nat.le_trans hl (by decide)) (fun e _ => ac (p := []) (by kernel_rfl) trivial) rfl
 ·rw [this, List.filterMap_eq_map', List.map_map]; rfl
 ·rw [← hr]
  have h : decide ((nh P).length ≤ cC) = true := by rw [kF]; exact decide_eq_true (Nat.le_trans hl (by decide))
  generalize nh P = l at *
  exact ac (p := [.b true]) (by kernel_rfl) (aI h trivial)
theorem vz (l : List (List Nat)) : (l.map (·.length)).sum = l.flatten.length := by rw [List.length_flatten]
theorem zB (k : Nat) (wd : Nat → List Nat) (t : Tr) (σ : aa) (hg : good wd t) (hs : t.size ≤ 900) (hl : (tx wd false t).length ≤ 900) : (O (k + 4)).fn (S "_law_text") [.lst ((bu wd t).map aA)] σ = some (.str (tx wd false t), σ) := by
 rw [dw (n := k + 3) (e := eX) (by kernel_rfl)]
 have hpf : dO ((bu wd t).map aA) = true := bj (fun _ => rfl) _
 obtain ⟨A', τ₂, X', r1, r2, r3, r4, r5⟩ := gP k ((bu wd t).map aA) wd t [] [] [] [] _ [] [] none hg ⟨.nil, fun e he => by cases he⟩ (fun e he => by cases he) trivial .root (by simp only [List.length_nil]; lia) hl
 have h1 := r1 []
 have r2 : X' ++ fc A' = tx wd false t := r2
 rw [List.append_nil, List.append_nil A'] at h1
 generalize hpg : (bu wd t).map aA = pg at *
 have hxl : X'.length + (fc A').length ≤ 900 := by rw [← List.length_append, r2]; exact hl
 have e1 := A4 (k + 2) pg X' A' τ₂ (by lia)
 have e2 : aq (O (k + 3)) .join (xS A' τ₂) (.str []) [.lst ((A'.map PE.b).map .str)] = some (.str (fc A'), xS A' τ₂) := kO rfl (by rw [vz]; unfold fc at hxl; lia)
 have e3 := ln (σ := xS A' τ₂) (x := X') (y := fc A') (by lia)
 rw [r2] at e3
 generalize fc A' = bs at *
 generalize tx wd false t = Y at *
 generalize (A'.map PE.b).map D.str = bl at *
 have f1 : (ba (ex (O (k + 3)) (am sX) 2000 100) ((av sX).take 1) (aS [] [(S "page", .lst pg)]) []).run = some (.next, x0 pg [], xS [] []) := (ac (p := []) (g := True) (by kernel_rfl) trivial)
 have f2 : (bJ (O (k + 3)) (am sX) (aD (O (k + 3)) 99 (am sX)).1 (ua a1) (x0 pg []) (xS [] [])).run = some (none, pg, xS [] []) := ac (p := []) (g := True) (by kernel_rfl) trivial
 have f3 : (ba (ex (O (k + 3)) (am sX) 2000 100) a1.tail (x0 pg X') (xS A' τ₂)).run = some (.ret (.str Y), x0 pg X', xS A' τ₂) := ac (p := [.s (.lst bl, xS A' τ₂), .s (.str bs, xS A' τ₂), .d (.str Y)]) (g := (cX (O (k + 3)) (am sX) 96 uJ (x0 pg X') (xS A' τ₂)).run = some (.lst bl, xS A' τ₂) ∧ aq (O (k + 3)) .join (xS A' τ₂) (.str []) [.lst bl] = some (.str bs, xS A' τ₂) ∧ aB .Add (xS A' τ₂) (.str X') (.str bs) = some (.str Y) ∧ True) (by kernel_rfl) ⟨e1, e2, e3, trivial⟩
 have f4 : kind a1 = 1 := by kernel_rfl
 have f5 : (ba (ex (O (k + 3)) (am sX) 2000 100) a1 (x0 pg []) (xS [] [])).run = some (.ret (.str Y), x0 pg X', xS A' τ₂) := bA f4 f2 h1 rfl f3
 have f6 : (ba (ex (O (k + 3)) (am sX) 2000 100) (av sX) (aS [] [(S "page", .lst pg)]) []).run = some (.ret (.str Y), x0 pg X', xS A' τ₂) := aw 1 f1 f5
 exact aK (q := (.ret (.str Y), x0 pg X', xS A' τ₂)) rfl (by simp only [lN, lM, eU, eO, fC, eN, eT, eQ, hpf, Bool.and_self]) f6 rfl rfl
end
section
noncomputable def bk : D := .obj 275 [(S "_headers", .ptr 1)]
noncomputable abbrev Hd := List Nat × List Nat
noncomputable def nU (p : Hd) : D := .tup [.str p.1, .str p.2]
noncomputable def hS (l : List Hd) : aa := [.dead, .lst (l.map nU)]
noncomputable def hL (l : List Hd) : aa := [.dead, .lock (l.map nU)]
theorem qC (k : Nat) : (O (k + 2)).new (S "Headers") [] [] = some (bk, hS []) := by kernel_rfl
noncomputable abbrev sC : Stmt := bC 64 1
noncomputable abbrev eC : FE := ⟨174, sC, [S "self", S "value", S "name"], 2, 0, [S "name"]⟩
noncomputable def jD (b : Bool) (s : List Nat) : Bool := if b then iU gA s else iU gz s
theorem nY (k : Nat) (b : Bool) (s : List Nat) (σ : aa) (h : jD b s = true) : (O (k + 3)).meth 275 (S "_convert_string_type") [bk, .str s] [(S "name", .bool b)] σ = some (.str s, σ) := by
 rw [gj (n := k + 2) (e := eC) (by kernel_rfl)]
 cases b
 ·have e : (O (k + 2)).bmeth 152 (S "search") [.str s] = some .none := DZ h
  exact bO (q := (.ret (.str s), [(S "self", bk), (S "value", .str s), (S "name", .bool false), (S "regex", .base 152)], σ)) rfl rfl (ac (p := [.skip 4, .d .none]) (by kernel_rfl) (aI e trivial)) rfl
 ·have e : (O (k + 2)).bmeth 147 (S "search") [.str s] = some .none := D0 h
  exact bO (q := (.ret (.str s), [(S "self", bk), (S "value", .str s), (S "name", .bool true), (S "regex", .base 147)], σ)) rfl rfl (ac (p := [.skip 4, .d .none]) (by kernel_rfl) (aI e trivial)) rfl
theorem lX {o : aO} {σ : aa} {s : List Nat} (h : s.length ≤ 100) : aq o .lower σ (.str s) [] = some (.str (s.map bH), σ) := by
 unfold aq
 simp only [List.isEmpty_nil, fS, Option.bind_some]
 rw [decide_eq_true (Nat.le_trans h (by decide))]
 rfl
noncomputable abbrev sG : Stmt := bC 64 8
noncomputable abbrev g1 : List Stmt := (av sG).drop 1
noncomputable abbrev eG : FE := ⟨222, sG, [S "self", S "name", S "default"], 2, 1, []⟩
noncomputable def hR (s : List Nat) : aj := [(S "self", bk), (S "name", .str s), (S "default", .none)]
noncomputable def ub (n : List Nat) (p : Hd) : Bool := p.1.map bH == n
noncomputable def wM : Option Hd → D | none => .none | some p => .str p.2
theorem sO (k : Nat) (n : List Nat) (L : List Hd) : ∀ (l : List Hd), (∀ p ∈ l, p.1.length ≤ 100) → ∃ ρ', (cV (am sG) (ex (O (k + 1)) (am sG) 2000 99) (cx g1) (bN g1) (l.map nU) (hR n) (hL L)).run = some (match l.find? (ub n) with | some p => (.ret (.str p.2), ρ', hL L) | none => (.next, hR n, hL L))
 | [], _ => ⟨[], rfl⟩
 | (a, v) :: l, h => by
  have e1 := lX (o := O (k + 1)) (σ := hL L) (h (a, v) (List.mem_cons_self ..))
  rw [List.map_cons, List.find?_cons]
  have hk : ub n (a, v) = (a.map bH == n) := rfl
  simp only at e1
  generalize a.map bH = b at *
  cases hc : b == n <;> rw [hc] at hk
  ·obtain ⟨ρ', ih⟩ := sO k n L l fun p hp => h p (List.mem_cons_of_mem _ hp)
   refine ⟨ρ', ?_⟩
   rw [au (ac (p := [.s (.str b, hL L), .b false]) (a := (.next, hR n, hL L)) (g := aq (O (k + 1)) .lower (hL L) (.str a) [] = some (.str b, hL L) ∧ some (false != (b == n)) = some false ∧ True) (by kernel_rfl) ⟨e1, by rw [bv, hc], trivial⟩), hk]
   exact ih
  ·refine ⟨[(S "self", bk), (S "name", .str n), (S "default", .none), (S "k", .str a), (S "v", .str v)], ?_⟩
   rw [au (ac (p := [.s (.str b, hL L), .b true]) (a := (.ret (.str v), [(S "self", bk), (S "name", .str n), (S "default", .none), (S "k", .str a), (S "v", .str v)], hL L)) (g := aq (O (k + 1)) .lower (hL L) (.str a) [] = some (.str b, hL L) ∧ some (false != (b == n)) = some true ∧ True) (by kernel_rfl) ⟨e1, by rw [bv, hc], trivial⟩), hk]
theorem wP (k : Nat) (s : List Nat) (l : List Hd) (hs : s.length ≤ 100) (hr : jD true (s.map bH) = true) (hl : ∀ p ∈ l, p.1.length ≤ 100) : (O (k + 4)).meth 275 (S "get") [bk, .str s] [] (hS l) = some (wM (l.find? (ub (s.map bH))), hS l) := by
 rw [gj (n := k + 3) (e := eG) (by kernel_rfl)]
 have e1 := lX (o := O (k + 3)) (σ := hS l) hs
 have e2 := nY k true (s.map bH) (hS l) hr
 obtain ⟨ρ', hq⟩ := sO (k + 2) (s.map bH) l l hl
 generalize s.map bH = n at *
 have f1 : (ba (ex (O (k + 3)) (am sG) 2000 100) ((av sG).take 1) (hR s) (hS l)).run = some (.next, hR n, hS l) := ac (p := [.s (.str n, hS l), .s (.str n, hS l)]) (by kernel_rfl) (aI e1 (aI e2 trivial))
 have f2 : (bJ (O (k + 3)) (am sG) (aD (O (k + 3)) 99 (am sG)).1 (ua g1) (hR n) (hS l)).run = some (some 1, l.map nU, hL l) := ac (p := []) (by kernel_rfl) trivial
 have f3 : kind g1 = 1 := by kernel_rfl
 cases hf : l.find? (ub n) with
 | some p =>
  rw [hf] at hq
  have f4 : (ba (ex (O (k + 3)) (am sG) 2000 100) (av sG) (hR s) (hS l)).run = some (.ret (.str p.2), ρ', hS l) := aw 1 f1 (mt f3 f2 hq rfl)
  exact bO (q := (.ret (.str p.2), ρ', hS l)) rfl rfl f4 rfl
 | none =>
  rw [hf] at hq
  have f4 : (ba (ex (O (k + 3)) (am sG) 2000 100) (av sG) (hR s) (hS l)).run = some (.ret .none, hR n, hS l) := aw 1 f1 (bA f3 f2 hq rfl (ac (p := []) (by kernel_rfl) trivial))
  exact bO (q := (.ret .none, hR n, hS l)) rfl rfl f4 rfl
noncomputable abbrev sD : Stmt := bC 64 15
noncomputable abbrev eD : FE := ⟨265, sD, [S "self", S "name", S "value"], 3, 0, []⟩
theorem zC (k : Nat) (s v : List Nat) (l : List Hd) (hs : s.length ≤ 100) (hr : jD true (s.map bH) = true) (hr1 : jD true s = true) (hr2 : jD false v = true) (hl : ∀ p ∈ l, p.1.length ≤ 100) (hn : l.find? (ub (s.map bH)) = none) (hz : l.length ≤ 1000) :
  (O (k + 5)).meth 275 (S "setdefault") [bk, .str s, .str v] [] (hS l) = some (.str v, hS (l ++ [(s, v)])) := by
 rw [gj (n := k + 4) (e := eD) (by kernel_rfl)]
 have e1 := wP k s l hs hr hl
 rw [hn] at e1
 have e2 := nY (k + 1) true s (hS l) hr1
 have e3 := nY (k + 1) false v (hS l) hr2
 have e4 : aq (O (k + 4)) .append (hS l) (.ptr 1) [.tup [.str s, .str v]] = some (.none, hS (l ++ [(s, v)])) := bw (l := l.map nU) rfl (by rw [List.length_map]; lia) (by unfold hS; rw [List.map_append]; rfl)
 generalize hS (l ++ [(s, v)]) = σ' at *
 exact bO (q := (.ret (.str v), [(S "self", bk), (S "name", .str s), (S "value", .str v), (S "result", .none)], σ')) rfl rfl (ac (p := [.s (.none, hS l), .skip 3, .s (.str s, hS l), .s (.str v, hS l), .s (.none, σ')]) (by kernel_rfl) (aI e1 (aI e2 (aI e3 (aI e4 trivial))))) rfl
noncomputable abbrev sK : Stmt := bC 64 9
noncomputable abbrev sV : Stmt := bC 64 10
noncomputable abbrev eK : FE := ⟨227, sK, [S "self"], 1, 0, []⟩
theorem zF (k : Nat) (l : List Hd) (hl : l.length ≤ 1000) : (O (k + 2)).meth 275 (S "keys") [bk] [] (hS l) = some (.lst (l.map fun p => .str p.1), hS l) := by
 rw [gj (n := k + 1) (e := eK) (by kernel_rfl)]
 have := aM (o := O (k + 1)) (f := am sK) (n := 98) (e := oG (fH (av sK))) (lk := some 1) (ρ := [(S "self", bk)]) (σ := hS l) (σ₁ := hL l) (σ₂ := hS l) nU (fun p => some (.str p.1)) l (by kernel_rfl) (ac (p := []) (by kernel_rfl) trivial) (Nat.le_trans hl (by decide)) (fun p _ => ac (p := []) (by kernel_rfl) trivial) rfl
 rw [List.filterMap_eq_map'] at this
 generalize (l.map fun p => D.str p.1) = ks at *
 have f4 : (ba (ex (O (k + 1)) (am sK) 2000 100) (av sK) [(S "self", bk)] (hS l)).run = some (.ret (.lst ks), [(S "self", bk)], hS l) := ac (p := [.s (.lst ks, hS l)]) (by kernel_rfl) (aI this trivial)
 exact bO (q := (.ret (.lst ks), [(S "self", bk)], hS l)) rfl rfl f4 rfl
noncomputable abbrev eV : FE := ⟨232, sV, [S "self"], 1, 0, []⟩
theorem tm (k : Nat) (l : List Hd) (hl : l.length ≤ 1000) : (O (k + 2)).meth 275 (S "values") [bk] [] (hS l) = some (.lst (l.map fun p => .str p.2), hS l) := by
 rw [gj (n := k + 1) (e := eV) (by kernel_rfl)]
 have := aM (o := O (k + 1)) (f := am sV) (n := 98) (e := oG (fH (av sV))) (lk := some 1) (ρ := [(S "self", bk)]) (σ := hS l) (σ₁ := hL l) (σ₂ := hS l) nU (fun p => some (.str p.2)) l (by kernel_rfl) (ac (p := []) (by kernel_rfl) trivial) (Nat.le_trans hl (by decide)) (fun p _ => ac (p := []) (by kernel_rfl) trivial) rfl
 rw [List.filterMap_eq_map'] at this
 generalize (l.map fun p => D.str p.2) = ks at *
 have f4 : (ba (ex (O (k + 1)) (am sV) 2000 100) (av sV) [(S "self", bk)] (hS l)).run = some (.ret (.lst ks), [(S "self", bk)], hS l) := ac (p := [.s (.lst ks, hS l)]) (by kernel_rfl) (aI this trivial)
 exact bO (q := (.ret (.lst ks), [(S "self", bk)], hS l)) rfl rfl f4 rfl
end
section
inductive Net where
 | leaf (i : Nat)
 | node (wh mx mk : Nat) (l r : Net)
noncomputable def Net.wh : Net → Nat
 | .leaf _ => 1
 | .node a _ _ _ _ => a
noncomputable def Net.mx : Net → Nat
 | .leaf _ => 1
 | .node _ b _ _ _ => b
noncomputable def Net.ok (n : Net) : Bool := Nat.ble n.wh 1000 && Nat.ble n.mx 1000
noncomputable def zw (m : Nat) (l r : Net) : Option Net :=
 if l.ok && r.ok then
  (if m == 14 then some (.node (l.wh * r.wh) (l.wh * r.mx + l.mx * r.wh) 14 l r)
   else if m == 47 then some (.node (l.wh * r.mx + l.mx * r.wh) (l.mx * r.mx) 47 l r) else none)
 else none
noncomputable def rz (n m : Nat) : Bool := !(m == 7) && (!(n == 47) || m == 47)
noncomputable def d7 (n : Nat) : List Nat → List Net → Option (List Nat × List Net)
 | [], ns => some ([], ns)
 | m :: ms, ns => if rz n m then (match ns with
  | r :: l :: rest => (zw m l r).bind fun x => d7 n ms (x :: rest)
  | _ => none) else some (m :: ms, ns)
noncomputable def ix (c : Nat) (ms : List Nat) (ns : List Net) : Option (List Nat × List Net) :=
 if c == 8 then (match ms with | _ :: ms => some (ms, ns) | [] => none)
 else if c == 0 then some (ms, ns)
 else if c == 14 || c == 47 then some (c :: ms, ns) else none
noncomputable def gg (c : Nat) (st : List Nat × List Net) : Option (List Nat × List Net) :=
 if Nat.ble 256 c then some (st.1, .leaf (c - 256) :: st.2)
 else if c == 7 then some (7 :: st.1, st.2)
 else (d7 c st.1 st.2).bind fun p => ix c p.1 p.2
noncomputable def i6 : List Nat → List Nat × List Net → Option (List Nat × List Net)
 | [], st => some st
 | c :: cs, st => (gg c st).bind (i6 cs)
end
section
noncomputable abbrev HA : FE := ⟨135, bG 59, [S "x"], 1, 0, []⟩
noncomputable abbrev Hz : FE := ⟨142, bG 60, [S "x"], 1, 0, []⟩
theorem lc (k : Nat) (n : Int) (σ : aa) : (O (k + 2)).fn (S "ISNONTERMINAL") [.int n] σ = some (.bool (decide (256 ≤ n)), σ) := by
 rw [dw (n := k + 1) (e := HA) (by kernel_rfl)]
 exact aK (q := (.ret (.bool (decide (256 ≤ n))), [(S "x", .int n)], [])) rfl rfl (ac (p := []) (by kernel_rfl) trivial) rfl rfl
theorem pI (k : Nat) (n : Int) (σ : aa) : (O (k + 2)).fn (S "ISEOF") [.int n] σ = some (.bool (false != (n == 0)), σ) := by
 rw [dw (n := k + 1) (e := Hz) (by kernel_rfl)]
 exact aK (q := (.ret (.bool (false != (n == 0))), [(S "x", .int n)], [])) rfl rfl (ac (p := []) (by kernel_rfl) trivial) rfl rfl
noncomputable abbrev sM : Stmt := bG 70
noncomputable abbrev m1 : List Stmt := (av sM).drop 1
noncomputable abbrev m2 : List Stmt := wC (bN m1)
noncomputable abbrev m3 : List Stmt := wC m2
noncomputable def dP (nm : Nat → List Nat) (c : Nat) : List Nat := if Nat.ble 256 c then nm (c - 256) else if c == 7 then [40] else if c == 8 then [41] else if c == 14 then [43] else if c == 47 then [47, 47] else []
noncomputable def dg (nm : Nat → List Nat) (c : Nat) : D := .tup [nI (if Nat.ble 256 c then 256 else c), .str (dP nm c)]
noncomputable def bt (nm : Nat → List Nat) : Net → D
 | .leaf i => .tup [nI 1, nI 1, nI 256, .str (nm i), .str (nm i)]
 | .node a b m l r => .tup [nI a, nI b, nI m, bt nm l, bt nm r]
noncomputable abbrev Ej := List Nat × List Net
noncomputable def nS (nm : Nat → List Nat) (st : Ej) : aa := [.lst ((st.2.map (bt nm)).reverse), .lst ((st.1.map nI).reverse)]
noncomputable def nR (cu : List D) (n : Nat) (w : List Nat) : aj := [(S "cut", .lst cu), (S "nets", .ptr 0), (S "marks", .ptr 1), (S "number", nI n), (S "word", .str w)]
theorem d5 {α : Type} (f : α → D) (x : α) (l : List α) : ((x :: l).map f).reverse = (l.map f).reverse ++ [f x] := List.reverse_cons
theorem oM {α : Type} (f : α → D) (l : List α) : ((l.map f).reverse).length = l.length := by rw [List.length_reverse, List.length_map]
noncomputable def lB (n : Nat) : Bool := n == 0 || n == 8 || n == 14 || n == 47
noncomputable def fj (m : Nat) : Bool := m == 7 || m == 14 || m == 47
theorem rv {n : Nat} (h : lB n = true) : n = 0 ∨ n = 8 ∨ n = 14 ∨ n = 47 := by simpa [lB, or_assoc] using h
theorem se {n : Nat} (h : fj n = true) : n = 7 ∨ n = 14 ∨ n = 47 := by simpa [fj, or_assoc] using h
theorem yM (k : Nat) (cu : List D) (nm : Nat → List Nat) (n : Nat) (w : List Nat) (m : Nat) (ms : List Nat) (ns : List Net) (hn : lB n = true) (hm : fj m = true) :
  ((aD (O (k + 1)) 96 (am sM)).2 (cx m3) (nR cu n w) (nS nm (m :: ms, ns))).run = some (rz n m, nS nm (m :: ms, ns)) := by
 have e1 : cmp .NotEq (O (k + 1)) (nS nm (m :: ms, ns)) (.ptr 1) (.lst []) = some true := i8 (l := ((m :: ms).map nI).reverse) rfl rfl rfl rfl (by rw [d5]; cases (ms.map nI).reverse <;> rfl)
 have e2 : al (O (k + 1)) (nS nm (m :: ms, ns)) (.ptr 1) (.int (-1)) = some (nI m) := kN (l := (ms.map nI).reverse) (by rw [← d5]; rfl)
 generalize nS nm (m :: ms, ns) = σ at *
 cases hq : (n == 47 && !(m == 7))
 ·refine ac (p := [.b true, .skip 0, .d (nI m)]) ?_ (aI e1 (aI e2 trivial))
  clear e1 e2
  rcases rv hn with rfl | rfl | rfl | rfl <;> rcases se hm with rfl | rfl | rfl <;> first | (cases hq; done) | kernel_rfl
 ·refine ac (p := [.b true, .skip 0, .d (nI m), .skip 3, .d (nI m)]) ?_ (aI e1 (aI e2 (aI e2 trivial)))
  clear e1 e2
  rcases rv hn with rfl | rfl | rfl | rfl <;> rcases se hm with rfl | rfl | rfl <;> first | exact eY hq | kernel_rfl
theorem vb (k : Nat) (cu : List D) (nm : Nat → List Nat) (n : Nat) (w : List Nat) (ns : List Net) : ((aD (O (k + 1)) 96 (am sM)).2 (cx m3) (nR cu n w) (nS nm ([], ns))).run = some (false, nS nm ([], ns)) :=
 ac (p := [.b false]) (g := cmp .NotEq (O (k + 1)) (nS nm ([], ns)) (.ptr 1) (.lst []) = some false ∧ True) (by kernel_rfl) ⟨i8 (l := []) rfl rfl rfl rfl rfl, trivial⟩
theorem gy (nm : Nat → List Nat) (x : Net) : ∃ d2 d3 d4, bt nm x = .tup [nI x.wh, nI x.mx, d2, d3, d4] := by
 cases x with
 | leaf i => exact ⟨_, _, _, rfl⟩
 | node a b m l r => exact ⟨_, _, _, rfl⟩
theorem yV {o : aO} {σ : aa} {i : Nat} {α : Type} {f : α → D} {x : α} {l : List α} (h : lstAt σ i = some (((x :: l).map f).reverse)) : al o σ (.ptr i) (.int (-1)) = some (f x) := kN (l := (l.map f).reverse) (by rw [← d5]; exact h)
theorem oP {o : aO} {σ σ' : aa} {i : Nat} {α : Type} {f : α → D} {x : α} {l : List α} (h : lstAt σ i = some (((x :: l).map f).reverse)) (hl : l.length ≤ 1000) (h2 : σ.set i (.lst (l.map f).reverse) = σ') : aq o .pop σ (.ptr i) [] = some (f x, σ') := oY (l := (l.map f).reverse) (by rw [← d5]; exact h) (by rw [oM]; lia) h2
theorem kD {o : aO} {σ σ' : aa} {i : Nat} {α : Type} {f : α → D} {x : α} {l : List α} (h : lstAt σ i = some ((l.map f).reverse)) (hl : l.length ≤ 1000) (h2 : σ.set i (.lst (((x :: l).map f).reverse)) = σ') : aq o .append σ (.ptr i) [f x] = some (.none, σ') := bw h (by rw [oM]; lia) (by rw [← d5]; exact h2)
theorem yO (k : Nat) (cu : List D) (nm : Nat → List Nat) (n : Nat) (w : List Nat) (m : Nat) (ms : List Nat) (r l x : Net) (ns : List Net) (hc : zw m l r = some x) (h1 : ms.length ≤ 500) (h2 : ns.length ≤ 500) :
  ∃ ρ', (ba (ex (O (k + 1)) (am sM) 2000 96) (bN m3) (nR cu n w) (nS nm (m :: ms, r :: l :: ns))).run = some (.next, nR cu n w ++ ρ', nS nm (ms, x :: ns)) := by
 unfold zw at hc
 cases hok : l.ok && r.ok
 ·rw [hok] at hc; cases hc
 ·rw [hok, if_pos rfl] at hc
  simp only [Net.ok, Bool.and_eq_true, Nat.ble_eq] at hok
  obtain ⟨⟨l1, l2⟩, r1, r2⟩ := hok
  have e1 : aq (O (k + 1)) .pop (nS nm (m :: ms, r :: l :: ns)) (.ptr 0) [] = some (bt nm r, nS nm (m :: ms, l :: ns)) := oP (f := bt nm) (x := r) (l := l :: ns) rfl (by rw [List.length_cons]; lia) rfl
  have e2 : aq (O (k + 1)) .pop (nS nm (m :: ms, l :: ns)) (.ptr 0) [] = some (bt nm l, nS nm (m :: ms, ns)) := oP (f := bt nm) (x := l) (l := ns) rfl (by lia) rfl
  have b1 : l.wh ≤ 1000000000 := Nat.le_trans l1 (by decide)
  have b2 : l.mx ≤ 1000000000 := Nat.le_trans l2 (by decide)
  have b3 : r.wh ≤ 1000000000 := Nat.le_trans r1 (by decide)
  have b4 : r.mx ≤ 1000000000 := Nat.le_trans r2 (by decide)
  have e3 := cm (σ := nS nm (m :: ms, ns)) b1 b3
  have e4 := cm (σ := nS nm (m :: ms, ns)) b1 b4
  have e5 := cm (σ := nS nm (m :: ms, ns)) b2 b3
  have e6 := cm (σ := nS nm (m :: ms, ns)) b2 b4
  have e7 : al (O (k + 1)) (nS nm (m :: ms, ns)) (.ptr 1) (.int (-1)) = some (nI m) := yV (f := nI) (x := m) (l := ms) rfl
  have e8 : aq (O (k + 1)) .pop (nS nm (m :: ms, ns)) (.ptr 1) [] = some (nI m, nS nm (ms, ns)) := oP (f := nI) (x := m) (l := ms) rfl (by lia) rfl
  have e9 : aq (O (k + 1)) .append (nS nm (ms, ns)) (.ptr 0) [bt nm x] = some (.none, nS nm (ms, x :: ns)) := kD (f := bt nm) (x := x) (l := ns) rfl (by lia) rfl
  generalize l.wh * r.wh = z1 at *
  generalize l.wh * r.mx = z2 at *
  generalize l.mx * r.wh = z3 at *
  generalize l.mx * r.mx = z4 at *
  obtain ⟨p2, p3, p4, hr⟩ := gy nm r
  obtain ⟨q2, q3, q4, hl⟩ := gy nm l
  by_cases hm : m = 14
  ·clear e6; subst hm
   cases hc
   refine ⟨[(S "right", bt nm r), (S "left", bt nm l), (S "whole", nI z1), (S "mixed", nI (z2 + z3))], ?_⟩
   simp only [bt] at e9
   rw [hr, hl] at *
   exact ac (p := [.skip 0, .s (.tup [nI r.wh, nI r.mx, p2, p3, p4], nS nm (14 :: ms, l :: ns)), .skip 0, .s (.tup [nI l.wh, nI l.mx, q2, q3, q4], nS nm (14 :: ms, ns)), .skip 1, .d (nI z1), .skip 1, .d (nI z2), .skip 1, .d (nI z3), .skip 0, .d (nI 14), .skip 3, .s (nI 14, nS nm (ms, ns)), .s (.none, nS nm (ms, .node z1 (z2 + z3) 14 l r :: ns))]) (by kernel_rfl) (aI e1 (aI e2 (aI e3 (aI e4 (aI e5 (aI e7 (aI e8 (aI e9 trivial))))))))
  ·by_cases hm2 : m = 47
   ·clear hm; subst hm2
    cases hc
    refine ⟨[(S "right", bt nm r), (S "left", bt nm l), (S "whole", nI (z2 + z3)), (S "mixed", nI z4)], ?_⟩
    simp only [bt] at e9
    rw [hr, hl] at *
    exact ac (p := [.skip 0, .s (.tup [nI r.wh, nI r.mx, p2, p3, p4], nS nm (47 :: ms, l :: ns)), .skip 0, .s (.tup [nI l.wh, nI l.mx, q2, q3, q4], nS nm (47 :: ms, ns)), .skip 1, .d (nI z1), .skip 1, .d (nI z2), .skip 1, .d (nI z3), .skip 0, .d (nI 47), .skip 3, .d (nI z4), .skip 1, .s (nI 47, nS nm (ms, ns)), .s (.none, nS nm (ms, .node (z2 + z3) z4 47 l r :: ns))]) (by kernel_rfl) (aI e1 (aI e2 (aI e3 (aI e4 (aI e5 (aI e7 (aI e6 (aI e8 (aI e9 trivial)))))))))
   ·rw [if_neg (by simpa using hm), if_neg (by simpa using hm2)] at hc
    exact aW hc
end
section
theorem oX (k : Nat) (cu : List D) (nm : Nat → List Nat) (n : Nat) (w : List Nat) (hn : lB n = true) : ∀ (ms : List Nat) (ns : List Net) (f : Nat) {ms' : List Nat} {ns' : List Net}, d7 n ms ns = some (ms', ns') → (∀ m ∈ ms, fj m = true) → ms.length < f → ms.length ≤ 400 → ns.length ≤ 400 →
  (cz (aD (O (k + 1)) 96 (am sM)).2 (ex (O (k + 1)) (am sM) 2000 96) (cx m3) (bN m3) f (nR cu n w) (nS nm (ms, ns))).run = some (.next, nR cu n w, nS nm (ms', ns'))
 | _, _, 0, _, _, _, _, hf, _, _ => absurd hf (Nat.not_lt_zero _)
 | [], ns, f + 1, ms', ns', h, _, _, _, _ => by
  refine r2 h ?_
  exact cG (vb k cu nm n w ns)
 | m :: ms, ns, f + 1, ms', ns', h, hm, hf, h1, h2 => by
  have ht := yM k cu nm n w m ms ns hn (hm m (List.mem_cons_self ..))
  unfold d7 at h
  cases hs : rz n m with
  | false =>
   rw [hs] at ht h
   refine r2 h ?_
   exact cG ht
  | true =>
   rw [hs] at ht h
   rw [if_pos rfl] at h
   cases ns with
   | nil => exact aW h
   | cons r ns =>
   cases ns with
   | nil => exact aW h
   | cons l rest =>
    revert h; refine bE fun x hx h => ?_
    simp only [List.length_cons] at h1 h2 hf
    obtain ⟨ρ', hb⟩ := yO k cu nm n w m ms r l x rest hx (by lia) (by lia)
    rw [fo ht hb, List.take_left]
    exact oX k cu nm n w hn ms (x :: rest) f h (fun m hm' => hm m (List.mem_cons_of_mem _ hm')) (by lia) (by lia) (by rw [List.length_cons]; lia)
theorem fD {n : Nat} : ∀ {ms : List Nat} {ns : List Net} {ms' : List Nat} {ns' : List Net} {N : Nat}, d7 n ms ns = some (ms', ns') → ms.length ≤ N → ms'.length ≤ N
 | [], ns, ms', ns', N, h, h1 => by cases h; exact h1
 | m :: ms, ns, ms', ns', N, h, h1 => by
  unfold d7 at h
  cases hs : rz n m with
  | false => rw [hs] at h; cases h; exact h1
  | true =>
   rw [hs, if_pos rfl] at h
   cases ns with
   | nil => exact aW h
   | cons r ns =>
   cases ns with
   | nil => exact aW h
   | cons l rest => exact bE (fun x hx h => fD h (Nat.le_of_succ_le h1)) h
theorem yN (k : Nat) (cu : List D) (nm : Nat → List Nat) (c : Nat) (w : List Nat) (ms : List Nat) (ns : List Net) {ms' : List Nat} {ns' : List Net} (h : ix c ms ns = some (ms', ns')) (h1 : ms.length ≤ 400) :
  lB c = true ∧ (ba (ex (O (k + 2)) (am sM) 2000 97) m3.tail (nR cu c w) (nS nm (ms, ns))).run = some (.next, nR cu c w, nS nm (ms', ns')) := by
 unfold ix at h
 cases h8 : c == 8
 ·cases h0 : c == 0
  ·rw [h8, h0] at h
   simp only [Bool.false_eq_true, if_false] at h
   cases hp : c == 14 || c == 47
   ·rw [hp] at h; cases h
   ·rw [hp] at h
    cases h
    have e1 : (O (k + 2)).fn (S "ISEOF") [nI c] (nS nm (ms, ns)) = some (.bool (false != ((c : Int) == 0)), nS nm (ms, ns)) := pI k c _
    have e0 : (false != ((c : Int) == 0)) = false := by rw [bv, show ((c : Int) == 0) = (c == 0) from bQ c 0, h0]
    rw [e0] at e1
    have e2 : aq (O (k + 2)) .append (nS nm (ms, ns)) (.ptr 1) [nI c] = some (.none, nS nm (c :: ms, ns)) := kD (f := nI) (x := c) (l := ms) rfl (by lia) rfl
    have hc : c = 14 ∨ c = 47 := by simpa using hp
    refine ⟨by rcases hc with rfl | rfl <;> rfl, ?_⟩
    refine ac (p := [.skip 1, .s (.bool false, nS nm (ms, ns)), .skip 2, .s (.none, nS nm (c :: ms, ns))]) ?_ (aI e1 (aI e2 trivial))
    clear e1 e2 e0 hp
    clear h8 h0; rcases hc with rfl | rfl <;> kernel_rfl
  ·have hc := eq_of_beq h0
   clear h8 h0; subst hc
   cases h
   have e1 : (O (k + 2)).fn (S "ISEOF") [nI 0] (nS nm (ms, ns)) = some (.bool true, nS nm (ms, ns)) := pI k 0 _
   exact ⟨rfl, ac (p := [.skip 1, .s (.bool true, nS nm (ms, ns))]) (by kernel_rfl) (aI e1 trivial)⟩
 ·have hc := eq_of_beq h8
  clear h8; subst hc
  cases ms with
  | nil => exact aW h
  | cons m ms =>
   have h := Prod.mk.inj (Option.some.inj h)
   rw [← h.1, ← h.2]
   have e1 : aq (O (k + 2)) .pop (nS nm (m :: ms, ns)) (.ptr 1) [] = some (nI m, nS nm (ms, ns)) := oP (f := nI) (x := m) (l := ms) rfl (by rw [List.length_cons] at h1; lia) rfl
   exact ⟨rfl, ac (p := [.skip 2, .s (nI m, nS nm (ms, ns))]) (by kernel_rfl) (aI e1 trivial)⟩
noncomputable def mR (cu : List D) : aj := [(S "cut", .lst cu), (S "nets", .ptr 0), (S "marks", .ptr 1)]
theorem yL (k : Nat) (cu : List D) (nm : Nat → List Nat) (c : Nat) (st st' : Ej) (h : gg c st = some st') (hm : ∀ m ∈ st.1, fj m = true) (h1 : st.1.length ≤ 400) (h2 : st.2.length ≤ 400) :
  (turn (am sM) (ex (O (k + 2)) (am sM) 2000 99) (cx m1) (bN m1) (dg nm c) (mR cu) (nS nm st)).run = some (.next, mR cu, nS nm st') := by
 obtain ⟨ms, ns⟩ := st
 simp only at hm h1 h2
 unfold gg at h
 have hI := lc k (if Nat.ble 256 c then 256 else c : Nat) (nS nm (ms, ns))
 unfold dg
 cases hw : Nat.ble 256 c with
 | true =>
  rw [hw] at h hI
  rw [if_pos rfl] at h
  cases h
  have hwd : dP nm c = nm (c - 256) := by unfold dP; rw [hw]; rfl
  rw [hwd]
  have e1 : (O (k + 2)).fn (S "ISNONTERMINAL") [nI 256] (nS nm (ms, ns)) = some (.bool true, nS nm (ms, ns)) := hI
  have e2 : aq (O (k + 2)) .append (nS nm (ms, ns)) (.ptr 0) [bt nm (.leaf (c - 256))] = some (.none, nS nm (ms, .leaf (c - 256) :: ns)) := kD (f := bt nm) (x := .leaf (c - 256)) (l := ns) rfl (by lia) rfl
  simp only [bt] at e2
  generalize nm (c - 256) = w at *
  exact ac (p := [.s (.bool true, nS nm (ms, ns)), .skip 2, .s (.none, nS nm (ms, .leaf (c - 256) :: ns))]) (by kernel_rfl) (aI e1 (aI e2 trivial))
 | false =>
  rw [hw] at h hI
  simp only [Bool.false_eq_true, if_false] at h hI ⊢
  generalize dP nm c = w at *
  have hlt : decide ((256 : Int) ≤ (c : Nat)) = false := by
   rw [decide_eq_false_iff_not]
   intro hle
   have : Nat.ble 256 c = true := Nat.ble_eq.mpr (by lia)
   rw [hw] at this; cases this
  rw [hlt] at hI
  cases h7 : c == 7 with
  | true =>
   rw [h7, if_pos rfl] at h
   cases h
   have hc := eq_of_beq h7
   clear hw hlt h7; subst hc
   have e2 : aq (O (k + 2)) .append (nS nm (ms, ns)) (.ptr 1) [nI 7] = some (.none, nS nm (7 :: ms, ns)) := kD (f := nI) (x := 7) (l := ms) rfl (by lia) rfl
   exact ac (p := [.s (.bool false, nS nm (ms, ns)), .skip 4, .s (.none, nS nm (7 :: ms, ns))]) (by kernel_rfl) (aI hI (aI e2 trivial))
  | false =>
   rw [h7] at h
   simp only [Bool.false_eq_true, if_false] at h
   revert h; refine bP fun ms1 ns1 hp hq => ?_
   obtain ⟨ms2, ns2⟩ := st'
   have hl : ms1.length ≤ 400 := fD hp h1
   obtain ⟨h4, f5⟩ := yN k cu nm c w ms1 ns1 hq hl
   have f4 := oX (k + 1) cu nm c w h4 ms ns 2000 hp hm (by lia) h1 h2
   have e7 : some (false != ((c : Int) == 7)) = some false := by rw [bv, show ((c : Int) == 7) = (c == 7) from bQ c 7, h7]
   have t1 : ((aD (O (k + 2)) 98 (am sM)).2 (cx (bN m1)) (nR cu c w) (nS nm (ms, ns))).run = some (false, nS nm (ms, ns)) := ac (p := [.s (.bool false, nS nm (ms, ns))]) (by kernel_rfl) (aI hI trivial)
   have t2 : ((aD (O (k + 2)) 97 (am sM)).2 (cx m2) (nR cu c w) (nS nm (ms, ns))).run = some (false, nS nm (ms, ns)) := ac (p := [.b false]) (by kernel_rfl) (aI e7 trivial)
   have k1 : kind (bN m1) = 3 := by kernel_rfl
   have k2 : kind m2 = 3 := by kernel_rfl
   have k3 : kind m3 = 2 := by kernel_rfl
   have r1 : (bN m1).tail = [] := by kernel_rfl
   have r2 : m2.tail = [] := by kernel_rfl
   have f6 : (ba (ex (O (k + 2)) (am sM) 2000 98) m2 (nR cu c w) (nS nm (ms, ns))).run = some (.next, nR cu c w, nS nm (ms2, ns2)) := g8 k2 t2 (g7 k3 f4 f5) (by rw [r2]; rfl)
   have f7 : (ba (ex (O (k + 2)) (am sM) 2000 99) (bN m1) (nR cu c w) (nS nm (ms, ns))).run = some (.next, nR cu c w, nS nm (ms2, ns2)) := g8 k1 t1 f6 (by rw [r1]; rfl)
   exact fQ (ρ₁ := nR cu c w) (by kernel_rfl) f7 (by rfl)
end
section
theorem i7 {n : Nat} : ∀ {ms : List Nat} {ns : List Net} {ms' : List Nat} {ns' : List Net}, d7 n ms ns = some (ms', ns') → ns'.length ≤ ns.length ∧ ∀ m ∈ ms', m ∈ ms
 | [], ns, ms', ns', h => by cases h; exact ⟨Nat.le_refl _, fun m h => h⟩
 | m :: ms, ns, ms', ns', h => by
  unfold d7 at h
  cases hs : rz n m with
  | false => rw [hs] at h; cases h; exact ⟨Nat.le_refl _, fun m h => h⟩
  | true =>
   rw [hs, if_pos rfl] at h
   cases ns with
   | nil => exact aW h
   | cons r ns =>
   cases ns with
   | nil => exact aW h
   | cons l rest =>
    revert h; refine bE fun x hx h => ?_
    have := i7 h
    exact ⟨Nat.le_trans this.1 (Nat.le_succ _), fun m hm => List.mem_cons_of_mem _ (this.2 m hm)⟩
theorem lW {c : Nat} {st st' : Ej} (h : gg c st = some st') (hm : ∀ m ∈ st.1, fj m = true) : (∀ m ∈ st'.1, fj m = true) ∧ st'.1.length ≤ st.1.length + 1 ∧ st'.2.length ≤ st.2.length + 1 := by
 obtain ⟨ms, ns⟩ := st
 unfold gg at h
 cases hw : Nat.ble 256 c with
 | true =>
  rw [hw, if_pos rfl] at h
  refine r2 h ?_
  exact ⟨hm, Nat.le_succ _, Nat.le_refl _⟩
 | false =>
  rw [hw] at h
  simp only [Bool.false_eq_true, if_false] at h
  cases h7 : c == 7 with
  | true =>
   rw [h7, if_pos rfl] at h
   refine r2 h ?_
   refine ⟨fun m h => ?_, Nat.le_refl _, Nat.le_succ _⟩
   rcases List.mem_cons.mp h with rfl | h
   ·rfl
   ·exact hm m h
  | false =>
   rw [h7] at h
   simp only [Bool.false_eq_true, if_false] at h
   revert h; refine bP fun ms1 ns1 hp hq => ?_
   have h1 := fD hp (Nat.le_refl _)
   have h2 := i7 hp
   have h3 : ∀ m ∈ ms1, fj m = true := fun m h => hm m (h2.2 m h)
   unfold ix at hq
   simp only at hq
   cases h8 : c == 8 with
   | true =>
    rw [h8, if_pos rfl] at hq
    cases ms1 with
    | nil => exact aW hq
    | cons m ms1 =>
     refine r2 hq ?_
     exact ⟨fun m h => h3 m (List.mem_cons_of_mem _ h), Nat.le_trans (Nat.le_of_succ_le h1) (Nat.le_succ _), Nat.le_trans h2.1 (Nat.le_succ _)⟩
   | false =>
    cases h0 : c == 0 with
    | true =>
     rw [h8, h0] at hq
     refine r2 hq ?_
     exact ⟨h3, Nat.le_trans h1 (Nat.le_succ _), Nat.le_trans h2.1 (Nat.le_succ _)⟩
    | false =>
     rw [h8, h0] at hq
     simp only [Bool.false_eq_true, if_false] at hq
     cases hp : c == 14 || c == 47 with
     | false => rw [hp] at hq; cases hq
     | true =>
      rw [hp] at hq
      refine r2 hq ?_
      refine ⟨fun m h => ?_, Nat.succ_le_succ h1, Nat.le_trans h2.1 (Nat.le_succ _)⟩
      clear hw h7 h8 h0; rcases List.mem_cons.mp h with rfl | h
      ·unfold fj
       rw [Bool.or_assoc, hp, Bool.or_true]
      ·exact h3 m h
theorem r0 (k : Nat) (cu : List D) (nm : Nat → List Nat) : ∀ (cs : List Nat) (st st' : Ej), i6 cs st = some st' → (∀ m ∈ st.1, fj m = true) → st.1.length + cs.length ≤ 400 → st.2.length + cs.length ≤ 400 →
  (cV (am sM) (ex (O (k + 2)) (am sM) 2000 99) (cx m1) (bN m1) (cs.map (dg nm)) (mR cu) (nS nm st)).run = some (.next, mR cu, nS nm st')
 | [], st, st', h, _, _, _ => by cases h; rfl
 | c :: cs, st, st', h, hm, h1, h2 => by
  revert h; refine bE fun st1 hs h => ?_
  rw [List.length_cons] at h1 h2
  have hi := lW hs hm
  rw [List.map_cons, au (yL k cu nm c st st1 hs hm (by lia) (by lia))]
  exact r0 k cu nm cs st1 st' h hi.1 (by lia) (by lia)
noncomputable abbrev eM : FE := ⟨308, sM, [S "cut"], 1, 0, []⟩
theorem Fe (nm : Nat → List Nat) : ∀ x : Net, iv (bt nm x) = true
 | .leaf _ => rfl
 | .node _ _ _ l r => by simp only [bt, eU, eO, fC, eN, eT, eQ, lN, lM, Fe nm l, Fe nm r, Bool.and_self]
theorem DT (k : Nat) (nm : Nat → List Nat) (cs : List Nat) (σ : aa) {ms : List Nat} {ns : List Net} (h : i6 cs ([], []) = some (ms, ns)) (hl : cs.length ≤ 400) : (O (k + 3)).fn (S "_law_net") [.lst (cs.map (dg nm))] σ = some (.lst ((ns.map (bt nm)).reverse), σ) := by
 rw [dw (n := k + 2) (e := eM) (by kernel_rfl)]
 have hpf : dO (cs.map (dg nm)) = true := bj (fun _ => rfl) _
 have h1 := r0 k (cs.map (dg nm)) nm cs ([], []) (ms, ns) h (fun m hm => by cases hm) (by simpa using hl) (by simpa using hl)
 have hp2 : dO ((ns.map (bt nm)).reverse) = true := by rw [← List.map_reverse]; exact bj (fun x => Fe nm x) _
 have hS : nS nm (ms, ns) = [.lst ((ns.map (bt nm)).reverse), .lst ((ms.map nI).reverse)] := rfl
 rw [hS] at h1
 generalize (ns.map (bt nm)).reverse = nl at *
 generalize (ms.map nI).reverse = ml at *
 generalize cs.map (dg nm) = cu at *
 have f1 : (ba (ex (O (k + 2)) (am sM) 2000 100) ((av sM).take 1) (aS [] [(S "cut", .lst cu)]) []).run = some (.next, mR cu, nS nm ([], [])) := ac (p := []) (by kernel_rfl) trivial
 have f2 : (bJ (O (k + 2)) (am sM) (aD (O (k + 2)) 99 (am sM)).1 (ua m1) (mR cu) (nS nm ([], []))).run = some (none, cu, nS nm ([], [])) := ac (p := []) (by kernel_rfl) trivial
 have f3 : kind m1 = 1 := by kernel_rfl
 have f4 : (ba (ex (O (k + 2)) (am sM) 2000 100) m1.tail (mR cu) [.lst nl, .lst ml]).run = some (.ret (.lst nl), mR cu, [.dead, .lst ml]) := ac (p := []) (by kernel_rfl) trivial
 have f5 : (ba (ex (O (k + 2)) (am sM) 2000 100) (av sM) (aS [] [(S "cut", .lst cu)]) []).run = some (.ret (.lst nl), mR cu, [.dead, .lst ml]) := aw 1 f1 (bA f3 f2 h1 rfl f4)
 exact aK (q := (.ret (.lst nl), mR cu, [.dead, .lst ml])) rfl (by simp only [lN, lM, eU, eO, fC, eN, eT, eQ, hpf, Bool.and_self]) f5 rfl (by simp only [eU, eO, fC, eN, eT, eQ]; exact hp2)
end
section
noncomputable abbrev Bk := List (Nat × Nat)
noncomputable def oJ (i cur : Nat) (b : Bk) : Option Bk := if Nat.ble cur 40 && Nat.ble i 4 && !(b.any fun p => p.1 == i) && Nat.ble b.length 50 then some (b ++ [(i, cur)]) else none
noncomputable def fg : Net → Nat → Bk → Option Bk
 | .leaf i, cur, b => oJ i cur b
 | .node wh _ mk l r, cur, b =>
  if Nat.ble cur 40 && l.ok && r.ok then
   (if mk == 14 then (fg l cur b).bind (fg r cur)
    else if mk == 47 && !(wh == 0) && Nat.ble wh 1000 && cur * l.wh * r.mx % wh == 0 && Nat.ble (cur * l.wh * r.mx / wh) cur then
     (fg l (cur * l.wh * r.mx / wh) b).bind (fg r (cur - cur * l.wh * r.mx / wh))
    else none)
  else none
noncomputable def Net.dp : Net → Nat
 | .leaf _ => 0
 | .node _ _ _ l r => max l.dp r.dp + 1
end
section
structure qM (nm : Nat → List Nat) : Prop where
 len : ∀ i, i ≤ 4 → (nm i).length ≤ 100
 re : ∀ i, i ≤ 4 → jD true (nm i) = true
 rel : ∀ i, i ≤ 4 → jD true ((nm i).map bH) = true
 inj : ∀ i j, i ≤ 4 → j ≤ 4 → (nm i).map bH = (nm j).map bH → i = j
noncomputable def hB (nm : Nat → List Nat) (b : Bk) : List Hd := b.map fun p => (nm p.1, ah p.2)
theorem rj : ∀ c : Nat, c < 41 → jD false (ah c) = true := by decide +kernel
theorem zM (σ : aa) (d : D) : ak (S "str") σ [d] = wQ .str σ d := by kernel_rfl
theorem D5 (σ : aa) (d e : D) : ak (S "divmod") σ [d, e] = (aC d).bind fun x => (aC e).bind fun y => D4 .divmod x y := by kernel_rfl
theorem xt {c : Nat} (h : c ≤ 1000) : (0 : Int) ≤ (c : Int) ∧ (c : Int) < 10000000000 := by lia
theorem zI {σ : aa} {c : Int} : wQ .str σ (.int c) = (gd (decide (0 ≤ c ∧ c < 10000000000))).map fun _ => .str (ah c) := by
 unfold wQ
 simp only [pi, Option.bind_some]
theorem v0 {σ : aa} {c : Int} (h : 0 ≤ c ∧ c < 10000000000) : wQ .str σ (.int c) = some (.str (ah c)) := by
 rw [zI, decide_eq_true h]
 rfl
theorem mY {σ : aa} {c : Nat} (h : c ≤ 1000) : ak (S "str") σ [nI c] = some (.str (ah c)) := (zM σ _).trans (v0 (xt h))
theorem D3 {a b : Int} (h1 : (b != 0) = true) (h2 : b.natAbs < 1073741824) : D4 .divmod a b = some (.tup [.int (a.fdiv b), .int (a.fmod b)]) := by
 unfold D4
 simp only
 rw [h1, decide_eq_true h2]
 rfl
theorem qx {σ : aa} {v a : Nat} (h0 : a ≠ 0) (ha : a ≤ 1000) (hm : v % a = 0) : ak (S "divmod") σ [nI v, nI a] = some (.tup [nI (v / a), nI 0]) := by
 have e1 : (v : Int).fdiv a = ((v / a : Nat) : Int) := (Int.ofNat_fdiv v a).symm
 have e2 : (v : Int).fmod a = 0 := by
  rw [show (v : Int).fmod a = ((v % a : Nat) : Int) from by rw [Int.fmod_eq_emod_of_nonneg _ (Int.natCast_nonneg a)]; rfl, hm]; rfl
 have h := D3 (a := (v : Int)) (b := (a : Int)) (by rw [bne_iff_ne]; lia) (by lia)
 rw [e1, e2] at h
 exact (D5 σ _ _).trans h
theorem rI {i cur : Nat} {b b' : Bk} (h : oJ i cur b = some b') : cur ≤ 40 ∧ i ≤ 4 ∧ (∀ p ∈ b, p.1 ≠ i) ∧ b.length ≤ 50 ∧ b' = b ++ [(i, cur)] := by
 unfold oJ at h
 cases hc : Nat.ble cur 40 && Nat.ble i 4 && !(b.any fun p => p.1 == i) && Nat.ble b.length 50 with
 | false => rw [hc] at h; cases h
 | true =>
  rw [hc, if_pos rfl] at h
  simp only [Bool.and_eq_true, Nat.ble_eq, Bool.not_eq_true', List.any_eq_false, beq_iff_eq] at hc
  exact ⟨hc.1.1.1, hc.1.1.2, fun p hp e => hc.1.2 p hp e, hc.2, (Option.some.inj h).symm⟩
theorem ey : ∀ {n : Net} {cur : Nat} {b b' : Bk} {m : Nat}, fg n cur b = some b' → (∀ p ∈ b, p.1 ≤ 4) → (∀ p ∈ b', p.1 ≤ 4)
 | .leaf i, cur, b, b', m, h, hb => by
  obtain ⟨_, h2, _, _, rfl⟩ := rI h
  intro p hp
  rcases List.mem_append.mp hp with hp | hp
  ·exact hb p hp
  ·rw [List.mem_singleton.mp hp]; exact h2
 | .node wh mx mk l r, cur, b, b', m, h, hb => by
  unfold fg at h
  split at h
  ·split at h
   ·exact bE (fun b1 h1 h2 => ey (m := m) h2 (ey (m := m) h1 hb)) h
   ·split at h
    ·exact bE (fun b1 h1 h2 => ey (m := m) h2 (ey (m := m) h1 hb)) h
    ·exact aW h
  ·exact aW h
noncomputable abbrev sS : Stmt := bG 71
noncomputable abbrev eS : FE := ⟨315, sS, [S "net", S "current", S "book"], 3, 0, []⟩
noncomputable def uy (net cur : D) : aj := [(S "net", net), (S "current", cur), (S "book", bk)]
theorem vP {o : aO} {σ : aa} (s : List Nat) : cmp .Eq o σ (.str s) (.str s) = some true := by
 show some (false != (s == s)) = _
 rw [bv, beq_self_eq_true]
theorem zE (k : Nat) (nm : Nat → List Nat) (hn : qM nm) (i cur : Nat) (b b' : Bk) (h : oJ i cur b = some b') (hb : ∀ p ∈ b, p.1 ≤ 4) :
  (O (k + 6)).fn (S "_law_send") [bt nm (.leaf i), nI cur, bk] (hS (hB nm b)) = some (.bool true, hS (hB nm b')) := by
 obtain ⟨h1, h2, h3, h4, rfl⟩ := rI h
 rw [dw (n := k + 5) (e := eS) (by kernel_rfl)]
 have e1 := lc (k + 3) 256 (hS (hB nm b))
 have e2 := mY (σ := hS (hB nm b)) (c := cur) (by lia)
 have e3 := zC k (nm i) (ah cur) (hB nm b) (hn.len i h2) (hn.rel i h2) (hn.re i h2) (rj cur (by lia)) (fun p hp => by
  obtain ⟨q, hq, rfl⟩ := List.mem_map.mp hp
  exact hn.len _ (hb q hq)) (by
  rw [List.find?_eq_none]
  intro p hp he
  obtain ⟨q, hq, rfl⟩ := List.mem_map.mp hp
  exact h3 q hq (hn.inj _ _ (hb q hq) h2 (eq_of_beq he))) (by unfold hB; rw [List.length_map]; lia)
 have hB' : hB nm (b ++ [(i, cur)]) = hB nm b ++ [(nm i, ah cur)] := by unfold hB; rw [List.map_append]; rfl
 rw [hB']
 have e4 := mY (σ := hS (hB nm b ++ [(nm i, ah cur)])) (c := cur) (by lia)
 have e5 := vP (o := O (k + 5)) (σ := hS (hB nm b ++ [(nm i, ah cur)])) (ah cur)
 generalize hS (hB nm b ++ [(nm i, ah cur)]) = σ' at *
 generalize hS (hB nm b) = σ at *
 unfold bt
 generalize nm i = w at *
 generalize ah cur = v at *
 have f : (ba (ex (O (k + 5)) (am sS) 2000 100) (av sS) (uy (.tup [nI 1, nI 1, nI 256, .str w, .str w]) (nI cur)) σ).run = some (.ret (.bool true), uy (.tup [nI 1, nI 1, nI 256, .str w, .str w]) (nI cur), σ') :=
  ac (p := [.skip 0, .s (.bool true, σ), .skip 2, .d (.str v), .s (.str v, σ'), .d (.str v), .b true]) (by kernel_rfl) (aI e1 (aI e2 (aI e3 (aI e4 (aI e5 trivial)))))
 exact bO (q := (.ret (.bool true), uy (.tup [nI 1, nI 1, nI 256, .str w, .str w]) (nI cur), σ')) rfl rfl f rfl
theorem js (nm : Nat → List Nat) (hn : qM nm) : ∀ (n : Net) (m cur : Nat) (b b' : Bk), n.dp ≤ m → fg n cur b = some b' → (∀ p ∈ b, p.1 ≤ 4) →
  (O (m + 6)).fn (S "_law_send") [bt nm n, nI cur, bk] (hS (hB nm b)) = some (.bool true, hS (hB nm b'))
 | .leaf i, m, cur, b, b', hm, h, hb => zE m nm hn i cur b b' h hb
 | .node wh mx mk l r, 0, cur, b, b', hm, h, hb => absurd hm (Nat.not_succ_le_zero _)
 | .node wh mx mk l r, m + 1, cur, b, b', hm, h, hb => by
  have hm1 : l.dp ≤ m ∧ r.dp ≤ m := by simp only [Net.dp] at hm; lia
  have hpf : dO [bt nm (.node wh mx mk l r), nI cur, bk] = false := by simp only [lN, lM, eU, eO, Fd, eN, eT, eQ, bk, Eg, Ef, Bool.and_false, Bool.false_and]
  rw [dw (n := m + 6) (e := eS) (by kernel_rfl)]
  unfold fg at h
  cases hg : Nat.ble cur 40 && l.ok && r.ok with
  | false => rw [hg] at h; cases h
  | true =>
   rw [hg, if_pos rfl] at h
   simp only [Net.ok, Bool.and_eq_true, Nat.ble_eq] at hg
   obtain ⟨⟨g1, g2, g3⟩, g4, g5⟩ := hg
   cases h14 : mk == 14 with
   | true =>
    rw [h14, if_pos rfl] at h
    have := eq_of_beq h14
    clear hm h14; subst this
    revert h; refine bE fun b1 h1 h2 => ?_
    have i1 := js nm hn l m cur b b1 hm1.1 h1 hb
    have i2 := js nm hn r m cur b1 b' hm1.2 h2 (ey (m := 0) h1 hb)
    have e1 := lc (m + 4) 14 (hS (hB nm b))
    unfold bt at hpf ⊢
    generalize hS (hB nm b) = σ at *
    generalize hS (hB nm b1) = σ1 at *
    generalize hS (hB nm b') = σ2 at *
    generalize bt nm l = dl at *
    generalize bt nm r = dr at *
    have f : (ba (ex (O (m + 6)) (am sS) 2000 100) (av sS) (uy (.tup [nI wh, nI mx, nI 14, dl, dr]) (nI cur)) σ).run = some (.ret (.bool true), uy (.tup [nI wh, nI mx, nI 14, dl, dr]) (nI cur), σ2) :=
     ac (p := [.skip 0, .s (.bool false, σ), .skip 5, .s (.bool true, σ1), .skip 2, .s (.bool true, σ2)]) (by kernel_rfl) (aI e1 (aI i1 (aI i2 trivial)))
    exact bO (q := (.ret (.bool true), uy (.tup [nI wh, nI mx, nI 14, dl, dr]) (nI cur), σ2)) rfl hpf f rfl
   | false =>
    rw [h14] at h
    simp only [Bool.false_eq_true, if_false] at h
    cases h47 : mk == 47 && !(wh == 0) && Nat.ble wh 1000 && cur * l.wh * r.mx % wh == 0 && Nat.ble (cur * l.wh * r.mx / wh) cur with
    | false => rw [h47] at h; cases h
    | true =>
     rw [h47, if_pos rfl] at h
     simp only [Bool.and_eq_true, Nat.ble_eq, Bool.not_eq_true', beq_iff_eq, beq_eq_false_iff_ne] at h47
     obtain ⟨⟨⟨⟨h3, h4⟩, h5⟩, h6⟩, h7⟩ := h47
     clear hm h14; subst h3
     have e2 := cm (σ := hS (hB nm b)) (a := cur) (b := l.wh) (by lia) (by lia)
     have hu : cur * l.wh ≤ 40 * 1000 := Nat.mul_le_mul g1 g2
     have e3 := cm (σ := hS (hB nm b)) (a := cur * l.wh) (b := r.mx) (by lia) (by lia)
     have e4 := qx (σ := hS (hB nm b)) h4 h5 h6
     generalize cur * l.wh * r.mx / wh = q at *
     revert h; refine bE fun b1 h1 h2 => ?_
     have i1 := js nm hn l m q b b1 hm1.1 h1 hb
     have i2 := js nm hn r m (cur - q) b1 b' hm1.2 h2 (ey (m := 0) h1 hb)
     have e1 := lc (m + 4) 47 (hS (hB nm b))
     have ec : nI (cur - q) = .int ((cur : Int) - (q : Int)) := by unfold nI; rw [Int.ofNat_sub h7]
     rw [ec] at i2
     obtain ⟨p2, p3, p4, hr⟩ := gy nm r
     obtain ⟨q2, q3, q4, hl⟩ := gy nm l
     unfold bt at hpf ⊢
     rw [hr, hl] at hpf ⊢
     rw [hl] at i1
     rw [hr] at i2
     generalize hS (hB nm b) = σ at *
     generalize hS (hB nm b1) = σ1 at *
     generalize hS (hB nm b') = σ2 at *
     generalize cur * l.wh * r.mx = v at *
     generalize cur * l.wh = u at *
     have f : (ba (ex (O (m + 6)) (am sS) 2000 100) (av sS) (uy (.tup [nI wh, nI mx, nI 47, .tup [nI l.wh, nI l.mx, q2, q3, q4], .tup [nI r.wh, nI r.mx, p2, p3, p4]]) (nI cur)) σ).run = some (.ret (.bool true), uy (.tup [nI wh, nI mx, nI 47, .tup [nI l.wh, nI l.mx, q2, q3, q4], .tup [nI r.wh, nI r.mx, p2, p3, p4]]) (nI cur) ++ [(S "share", nI q), (S "rest", nI 0)], σ2) :=
      ac (p := [.skip 0, .s (.bool false, σ), .skip 6, .d (nI u), .skip 1, .d (nI v), .skip 0, .d (.tup [nI q, nI 0]), .skip 3, .s (.bool true, σ1), .skip 3, .s (.bool true, σ2)]) (by kernel_rfl) (aI e1 (aI e2 (aI e3 (aI e4 (aI i1 (aI i2 trivial))))))
     exact bO (q := (.ret (.bool true), uy (.tup [nI wh, nI mx, nI 47, .tup [nI l.wh, nI l.mx, q2, q3, q4], .tup [nI r.wh, nI r.mx, p2, p3, p4]]) (nI cur) ++ [(S "share", nI q), (S "rest", nI 0)], σ2)) rfl hpf f rfl
end
section
noncomputable def sfxT : List (List Nat) := [[9], [32], [32, 9]]
noncomputable def rmkT : List (List Nat) := [[], [34, 43, 40, 34], [34, 41, 47, 47, 34], [34, 92, 34, 40, 34]]
noncomputable def nmT : List (List (List Nat)) := [[[65]], [[98], [66], [92, 40]], [[99], [67], [92, 43]], [[100], [68], [92, 47]], [[101], [69], [92, 34]]]
noncomputable def ce (s : List Nat) : List (List Nat) := (Txt.split ⟨s.toArray⟩ ⟨#[9]⟩).map (·.cps.toList)
noncomputable def iI (s : List Nat) : List Nat := bz ((ce s).dropLast.reverse ++ (ce s).drop ((ce s).length - 1))
theorem nA : ∀ l : List (List Nat), (Str.join ⟨#[9]⟩ (l.map fun x => ⟨x.toArray⟩)).cps.toList = bz l
 | [] => rfl
 | [x] => by simp [Str.join, bz]
 | x :: y :: r => by
  have ih := nA (y :: r)
  rw [List.map_cons] at ih ⊢
  rw [List.map_cons]
  show (((⟨x.toArray⟩ : Str) ++ ⟨#[9]⟩ ++ Str.join ⟨#[9]⟩ (⟨y.toArray⟩ :: r.map fun x => ⟨x.toArray⟩)) : Str).cps.toList = _
  show ((x.toArray ++ #[9] ++ _ : Array Nat)).toList = _
  rw [bz, ← ih]
  simp
theorem iO (s : List Nat) : bz (ce s) = s := by
 unfold ce
 rw [← nA, List.map_map]
 have e : ((fun x : List Nat => (⟨x.toArray⟩ : Str)) ∘ fun x : Str => x.cps.toList) = id := funext fun x => by cases x; rfl
 rw [e, List.map_id, StrLaws.join_split]
theorem uw (s : List Nat) : 1 ≤ (ce s).length := by
 unfold ce
 rw [List.length_map]
 exact split_pos _ _
theorem m4 (s : List Nat) : ∃ rs l, ce s = rs ++ [l] ∧ iI s = bz (rs.reverse ++ [l]) := by
 have h := uw s
 have hne : ce s ≠ [] := fun e => by rw [e] at h; cases h
 have e := List.dropLast_concat_getLast hne
 refine ⟨(ce s).dropLast, (ce s).getLast hne, e.symm, ?_⟩
 unfold iI
 congr 2
 have hl : (ce s).length - 1 = (ce s).dropLast.length := List.length_dropLast.symm
 rw [hl]
 conv => lhs; rw [← e]
 rw [List.dropLast_concat, List.drop_left]
theorem rB (s : List Nat) : ∀ x ∈ ce s, 9 ∉ x := fun x hx => by
 obtain ⟨y, hy, rfl⟩ := List.mem_map.mp hx
 exact StrLaws.split_free _ 9 y hy
theorem jZ : ∀ (rs : List (List Nat)), ∀ x ∈ rs, ∀ c ∈ x, c ∈ bz rs
 | [], x, h, c, hc => by cases h
 | [y], x, h, c, hc => by rw [List.mem_singleton.mp h] at hc; exact hc
 | y :: z :: r, x, h, c, hc => by
  show c ∈ y ++ 9 :: bz (z :: r)
  rcases List.mem_cons.mp h with rfl | h
  ·exact List.mem_append_left _ hc
  ·exact List.mem_append_right _ (List.mem_cons_of_mem _ (jZ (z :: r) x h c hc))
theorem ma : ∀ (rs : List (List Nat)), (∀ x ∈ rs, ∀ c ∈ x, c = 32) → Bl (bz rs)
 | [], _ => fun c h => by cases h
 | [y], h => fun c hc => .inl (h y (List.mem_singleton.mpr rfl) c hc)
 | y :: z :: r, h => fun c hc => by
  rcases List.mem_append.mp hc with hc | hc
  ·exact .inl (h y (List.mem_cons_self ..) c hc)
  ·rcases List.mem_cons.mp hc with rfl | hc
   ·exact .inr rfl
   ·exact ma (z :: r) (fun x hx => h x (List.mem_cons_of_mem _ hx)) c hc
theorem eH : ∀ (rs : List (List Nat)) (l : List Nat), (bz (rs ++ [l])).length = (rs.map fun x => x.length + 1).sum + l.length
 | [], l => by simp [bz]
 | x :: rs, l => by
  have e : bz (x :: rs ++ [l]) = x ++ 9 :: bz (rs ++ [l]) := by cases rs <;> rfl
  rw [e, List.length_append, List.length_cons, eH rs l, List.map_cons, List.sum_cons]
  lia
theorem xz {s : List Nat} (h : Bl s) : ∀ x ∈ ce s, ∀ c ∈ x, c = 32 := fun x hx c hc => by
 have h1 : c ∈ s := by
  have := jZ (ce s) x hx c hc
  rw [iO] at this
  exact this
 rcases h c h1 with h2 | h2
 ·exact h2
 ·rw [h2] at hc
  exact absurd hc (rB s x hx)
theorem rg {s : List Nat} (h : Bl s) : Bl (iI s) ∧ (iI s).length = s.length ∧ ∀ ts, cf ts 0 (iI s) = cf ts 0 s := by
 obtain ⟨rs, l, e1, e2⟩ := m4 s
 have e3 := iO s
 have h32 := xz h
 rw [e1] at e3 h32
 rw [e2]
 refine ⟨ma _ fun x hx => h32 x (by simpa using hx), ?_, fun ts => ?_⟩
 ·rw [eH, ← e3, eH, List.map_reverse, iq]
 ·rw [sm ts rs l h32, e3]
end
section
noncomputable def jO (sg : Bool) : Nat := if sg then 1 else 0
noncomputable def qD (c : Bool) (ld : List Nat) : List Nat := if c then iI ld else ld
noncomputable def cg (wi : List (Nat × Nat)) (o a b jo : Nat) (sg : Bool) : List (Nat × Nat) := wi.set o (a, if sg then b else jo) ++ [(if sg then a else jo, b)]
noncomputable def Tr.wires : Tr → List Nat
 | .leaf _ w => [w]
 | .node _ _ a b => a.wires ++ b.wires
noncomputable def Tr.put (o new : Nat) (sg : Bool) (sf : List Nat) (tn : Bool) : Tr → Tr
 | .leaf l w => if w == o then .node l sg (.leaf (l ++ sf) o) (.leaf (qD tn (l ++ sf)) new) else .leaf l w
 | .node l s a b => .node l s (a.put o new sg sf tn) (b.put o new sg sf tn)
section
variable {o new : Nat} {sg : Bool} {sf : List Nat} {tn : Bool} {wd : Nat → List Nat}
theorem dc : ∀ {t : Tr}, o ∉ t.wires → t.put o new sg sf tn = t
 | .leaf l w, h => by
  have : (w == o) = false := beq_eq_false_iff_ne.mpr fun e => h (by rw [e]; exact List.mem_singleton.mpr rfl)
  simp only [Tr.put, this]; rfl
 | .node l s a b, h => by
  simp only [Tr.wires, List.mem_append, not_or] at h
  simp only [Tr.put, dc h.1, dc h.2]
theorem kB : ∀ {t : Tr}, o ∉ t.wires → ∀ y ∈ bu wd t, y.2.1 ≠ (o : Int)
 | .leaf l w, h, y, hy => by
  rw [List.mem_singleton.mp hy]
  intro e
  exact h (by rw [show o = w from (Int.ofNat.inj e).symm]; exact List.mem_singleton.mpr rfl)
 | .node l s a b, h, y, hy => by
  simp only [Tr.wires, List.mem_append, not_or] at h
  rcases List.mem_cons.mp hy with rfl | hy
  ·exact fun e => by cases e
  ·rcases List.mem_append.mp hy with hy | hy
   ·exact kB h.1 y hy
   ·exact kB h.2 y hy
theorem fW : ∀ {t : Tr}, o ∈ t.wires → t.wires.Nodup → ∃ A B l, bu wd t = A ++ (l, (o : Int), wd o) :: B ∧ (∀ y ∈ A, y.2.1 ≠ (o : Int)) ∧ bu wd (t.put o new sg sf tn) = A ++ (l, -1, cw sg) :: (l ++ sf, (o : Int), wd o) :: (qD tn (l ++ sf), (new : Int), wd new) :: B
 | .leaf l w, h, _ => by
  have := List.mem_singleton.mp h
  clear h; subst this
  exact ⟨[], [], l, rfl, (fun y hy => by cases hy), by simp only [Tr.put, beq_self_eq_true, if_true]; rfl⟩
 | .node l s a b, h, hn => by
  have hn := List.nodup_append.mp hn
  rcases List.mem_append.mp h with h | h
  ·have hb : o ∉ b.wires := fun hb => hn.2.2 o h o hb rfl
   obtain ⟨A, B, l1, e1, e2, e3⟩ := fW h hn.1
   refine ⟨(l, -1, cw s) :: A, B ++ bu wd b, l1, ?_, fun y hy => ?_, ?_⟩
   ·simp only [bu, e1, List.cons_append, List.append_assoc]
   ·rcases List.mem_cons.mp hy with rfl | hy
    ·exact fun e => by cases e
    ·exact e2 y hy
   ·simp only [Tr.put, bu, dc hb, e3, List.cons_append, List.append_assoc]
  ·have ha : o ∉ a.wires := fun ha => hn.2.2 o ha o h rfl
   obtain ⟨A, B, l1, e1, e2, e3⟩ := fW h hn.2.1
   refine ⟨(l, -1, cw s) :: (bu wd a ++ A), B, l1, ?_, fun y hy => ?_, ?_⟩
   ·simp only [bu, e1, List.cons_append, List.append_assoc]
   ·rcases List.mem_cons.mp hy with rfl | hy
    ·exact fun e => by cases e
    ·rcases List.mem_append.mp hy with hy | hy
     ·exact kB ha y hy
     ·exact e2 y hy
   ·simp only [Tr.put, bu, dc ha, e3, List.cons_append, List.append_assoc]
theorem fX {i : Nat} : ∀ {t : Tr}, o ∈ t.wires → (i ∈ (t.put o new sg sf tn).wires ↔ i ∈ t.wires ∨ i = new)
 | .leaf l w, h => by
  have := List.mem_singleton.mp h
  clear h; subst this
  simp only [Tr.put, beq_self_eq_true, if_true, Tr.wires, List.cons_append, List.nil_append, List.mem_cons, List.not_mem_nil, or_false]
 | .node l s a b, h => by
  have ia : o ∈ a.wires → (i ∈ (a.put o new sg sf tn).wires ↔ i ∈ a.wires ∨ i = new) := fun h => fX h
  have ib : o ∈ b.wires → (i ∈ (b.put o new sg sf tn).wires ↔ i ∈ b.wires ∨ i = new) := fun h => fX h
  have hx : ∀ t : Tr, (o ∈ t.wires → (i ∈ (t.put o new sg sf tn).wires ↔ i ∈ t.wires ∨ i = new)) → i ∈ (t.put o new sg sf tn).wires → i ∈ t.wires ∨ i = new := fun t ih hi => by
   by_cases ho : o ∈ t.wires
   ·exact (ih ho).mp hi
   ·rw [dc ho] at hi; exact .inl hi
  have hy : ∀ t : Tr, (o ∈ t.wires → (i ∈ (t.put o new sg sf tn).wires ↔ i ∈ t.wires ∨ i = new)) → i ∈ t.wires → i ∈ (t.put o new sg sf tn).wires := fun t ih hi => by
   by_cases ho : o ∈ t.wires
   ·exact (ih ho).mpr (.inl hi)
   ·rw [dc ho]; exact hi
  simp only [Tr.put, Tr.wires, List.mem_append]
  constructor
  ·rintro (hi | hi)
   ·rcases hx a ia hi with hi | hi
    ·exact .inl (.inl hi)
    ·exact .inr hi
   ·rcases hx b ib hi with hi | hi
    ·exact .inl (.inr hi)
    ·exact .inr hi
  ·clear hx; rintro ((hi | hi) | rfl)
   ·exact .inl (hy a ia hi)
   ·exact .inr (hy b ib hi)
   ·rcases List.mem_append.mp h with h | h
    ·exact .inl ((ia h).mpr (.inr rfl))
    ·exact .inr ((ib h).mpr (.inr rfl))
theorem gW : ∀ {t : Tr}, o ∈ t.wires → t.wires.Nodup → new ∉ t.wires → (t.put o new sg sf tn).wires.Nodup
 | .leaf l w, h, hn, hw => by
  have := List.mem_singleton.mp h
  clear h hn; subst this
  simp only [Tr.put, beq_self_eq_true, if_true, Tr.wires, List.cons_append, List.nil_append, List.nodup_cons, List.mem_cons, List.not_mem_nil, or_false, not_false_eq_true, List.nodup_nil, and_true]
  exact fun e => hw (by rw [e]; exact List.mem_singleton.mpr rfl)
 | .node l s a b, h, hn, hw => by
  have hn := List.nodup_append.mp hn
  simp only [Tr.wires, List.mem_append, not_or] at hw
  rcases List.mem_append.mp h with h | h
  ·have hb : o ∉ b.wires := fun hb => hn.2.2 o h o hb rfl
   simp only [Tr.put, Tr.wires, dc hb]
   refine List.nodup_append.mpr ⟨gW h hn.1 hw.1, hn.2.1, fun x hx y hy e => ?_⟩
   rcases (fX h).mp hx with hx | hx
   ·exact hn.2.2 x hx y hy e
   ·rw [← e, hx] at hy; exact hw.2 hy
  ·have ha : o ∉ a.wires := fun ha => hn.2.2 o ha o h rfl
   simp only [Tr.put, Tr.wires, dc ha]
   refine List.nodup_append.mpr ⟨hn.1, gW h hn.2.1 hw.2, fun x hx y hy e => ?_⟩
   rcases (fX h).mp hy with hy | hy
   ·exact hn.2.2 x hx y hy e
   ·rw [e, hy] at hx; exact hw.1 hx
noncomputable def gLd (N : Nat) : Tr → Prop
 | .leaf l _ => Bl l ∧ l.length ≤ N
 | .node l _ a b => Bl l ∧ l.length ≤ N ∧ gLd N a ∧ gLd N b ∧ (∀ ts, 0 < ts → cf ts 0 l < cf ts 0 a.lead) ∧ ∀ ts, cf ts 0 a.lead = cf ts 0 b.lead
theorem gLd.mono {N M : Nat} (h : N ≤ M) : ∀ {t : Tr}, gLd N t → gLd M t
 | .leaf l _, g => ⟨g.1, Nat.le_trans g.2 h⟩
 | .node l _ a b, g => ⟨g.1, Nat.le_trans g.2.1 h, g.2.2.1.mono h, g.2.2.2.1.mono h, g.2.2.2.2⟩
theorem iX (t : Tr) : (t.put o new sg sf tn).lead = t.lead := by
 cases t with
 | leaf l w =>
  simp only [Tr.put]
  split <;> rfl
 | node l s a b => rfl
theorem gLd.put {N : Nat} (hsf : Bl sf) (hne : sf ≠ []) (h2 : sf.length ≤ 2) : ∀ {t : Tr}, gLd N t → gLd (N + 2) (t.put o new sg sf tn)
 | .leaf l w, g => by
  simp only [Tr.put]
  split
  ·have hb := g.1.app hsf
   have hl : (l ++ sf).length ≤ N + 2 := by rw [List.length_append]; exact Nat.add_le_add g.2 h2
   have ht := rg hb
   have hbs : Bl (qD tn (l ++ sf)) ∧ (qD tn (l ++ sf)).length ≤ N + 2 ∧ ∀ ts, cf ts 0 (l ++ sf) = cf ts 0 (qD tn (l ++ sf)) := by
    cases tn with
    | false => exact ⟨hb, hl, fun _ => rfl⟩
    | true => exact ⟨ht.1, by rw [show qD true (l ++ sf) = iI (l ++ sf) from rfl, ht.2.1]; exact hl, fun ts => (ht.2.2 ts).symm⟩
   exact ⟨g.1, Nat.le_add_right_of_le g.2, ⟨hb, hl⟩, ⟨hbs.1, hbs.2.1⟩, fun ts h0 => kM ts h0 hsf hne l 0 g.1, hbs.2.2⟩
  ·exact g.mono (Nat.le_add_right _ _)
 | .node l s a b, g => by
  refine ⟨g.1, Nat.le_add_right_of_le g.2.1, g.2.2.1.put hsf hne h2, g.2.2.2.1.put hsf hne h2, fun ts h0 => ?_, fun ts => ?_⟩
  ·rw [iX]; exact g.2.2.2.2.1 ts h0
  ·rw [iX, iX]; exact g.2.2.2.2.2 ts
theorem rH (sg : Bool) : lT (cw sg) = true := by cases sg <;> rfl
theorem gLd.bl {N : Nat} : ∀ {t : Tr}, gLd N t → Bl t.lead ∧ t.lead.length ≤ N
 | .leaf _ _, g => g
 | .node _ _ _ _, g => ⟨g.1, g.2.1⟩
theorem iz (hw : ∀ i, lT (wd i) = true) {N : Nat} {t : Tr} (g : gLd N t) (ts : Nat) : cf ts 0 (t.str wd) = cf ts 0 t.lead := by
 unfold Tr.str
 refine gk ts ?_ _ _ g.bl.1
 cases t with
 | leaf l w => exact hw w
 | node l s a b => exact rH s
theorem gLd.good (hw : ∀ i, lT (wd i) = true) (hl : ∀ i, (wd i).length ≤ 10) {N : Nat} (hN : N ≤ 40) : ∀ {t : Tr}, gLd N t → good wd t
 | .leaf l w, g => by
  show (l ++ wd w).length ≤ 50
  rw [List.length_append]
  exact Nat.add_le_add (Nat.le_trans g.2 hN) (hl w)
 | .node l s a b, g => by
  obtain ⟨g1, g2, ga, gb, g3, g4⟩ := g
  have e : ∀ ts, cf ts 0 (l ++ cw s) = cf ts 0 l := fun ts => gk ts (rH s) _ _ g1
  refine ⟨?_, ga.good hw hl hN, gb.good hw hl hN, fun ts h0 => ?_, fun ts h0 => ?_, fun ts h0 => ?_⟩
  ·rw [List.length_append]
   have hs : (cw s).length ≤ 10 := by cases s <;> decide
   exact Nat.add_le_add (Nat.le_trans g2 hN) hs
  ·rw [e, iz hw ga]; exact g3 ts h0
  ·rw [e, iz hw gb, ← g4]; exact g3 ts h0
  ·rw [iz hw ga, iz hw gb]; exact g4 ts
end
end
section
noncomputable abbrev sP : Stmt := bG 66
noncomputable abbrev b1 : List Stmt := (av sP).drop 4
noncomputable def pR (sc dr : List D) (jo : Nat) : aj := [(S "script", .lst sc), (S "told", .lst [nI 1428, nI 361, nI 1104, nI 1286]), (S "draws", .lst dr), (S "page", .ptr 0), (S "wires", .ptr 1), (S "joints", nI jo), (S "names", .ptr 2)]
noncomputable def bD (pg wi nms : List D) : aa := [.lst pg, .lst wi, .lst nms]
theorem BH {a b : Nat} (h0 : b ≠ 0) : fh .Mod a b = some ((a % b : Nat) : Int) := by
 have h1 : ((b : Int) != 0) = true := by rw [bne_iff_ne]; lia
 delta fh
 simp only
 rw [h1, Int.fmod_eq_emod_of_nonneg _ (Int.natCast_nonneg b)]
 rfl
theorem cQ {σ : aa} {a b : Nat} (h0 : b ≠ 0) : aB .Mod σ (nI a) (nI b) = some (nI (a % b)) := lf (BH h0)
theorem iu {o : aO} {σ : aa} {l : List (List Nat)} {i : Nat} (h : i < l.length) (hb : i < 1000000) : al o σ (.lst (l.map .str)) (nI i) = some (.str (l.getD i [])) :=
 bZ (l := l.map .str) rfl (by rw [List.getElem?_map, List.getD_eq_getElem?_getD, List.getElem?_eq_getElem h]; rfl) hb
noncomputable def E9 (new r o kk : Nat) : aj := [(S "new", nI new), (S "r", nI r), (S "old", nI o), (S "k", nI kk)]
noncomputable abbrev uP : Expr := rZ (oG (fH ((bN b1).drop 2))) [0]
theorem sH (l : List mS) : dH (l.map fun x => D.int x.2.1) = some (l.map fun x => x.2.1) := by
 unfold dH
 induction l with
 | nil => rfl
 | cons x l ih =>
  rw [List.map_cons]
  unfold fE
  rw [ih]
  rfl
theorem uU {o : aO} {σ : aa} {A B : List mS} {x : mS} (hA : ∀ y ∈ A, y.2.1 ≠ x.2.1) (hl : A.length + B.length ≤ 500) (hs : ∀ y ∈ A ++ x :: B, small y.2.1 = true) : aq o .index σ (.lst ((A ++ x :: B).map fun y => .int y.2.1)) [.int x.2.1] = some (nI A.length, σ) := by
 have h1 : ((A ++ x :: B).map fun y => y.2.1).contains x.2.1 = true := by rw [List.contains_iff_mem]; exact List.mem_map.mpr ⟨x, by simp, rfl⟩
 have h2 : ((A ++ x :: B).map fun y => y.2.1).length ≤ 1000 := by rw [List.length_map, List.length_append, List.length_cons]; lia
 have h3 : ((A ++ x :: B).map fun y => y.2.1).all small = true := by
  rw [List.all_map, List.all_eq_true]
  exact hs
 have h4 : ((A ++ x :: B).map fun y => y.2.1).idxOf x.2.1 = A.length := by
  rw [List.map_append, List.map_cons, List.idxOf_append, if_neg, List.length_map, List.idxOf_cons_self, Nat.zero_add]
  intro h
  obtain ⟨y, hy, e⟩ := List.mem_map.mp h
  exact hA y hy e
 delta aq
 simp only [lO, Di, pi, Option.bind_some]
 rw [sH, Option.bind_some, h1, decide_eq_true h2, h3, h4]
 rfl
theorem Hl (k : Nat) (sc dr : List D) (jo new r : Nat) (A B : List mS) (x : mS) (wi nms : List D) (hdr : dr[new - 1]? = some (nI r)) (h0 : new ≠ 0) (hn : new ≤ 4) (hx : x.2.1 = ((r % 12 % new : Nat) : Int)) (hA : ∀ y ∈ A, y.2.1 ≠ x.2.1) (hl : A.length + B.length ≤ 500) (hs : ∀ y ∈ A ++ x :: B, small y.2.1 = true) :
  (ba (ex (O (k + 1)) (am sP) 2000 99) ((bN b1).take 3) (pR sc dr jo ++ [(S "new", nI new)]) (bD ((A ++ x :: B).map aA) wi nms)).run = some (.next, pR sc dr jo ++ E9 new r (r % 12 % new) A.length, bD ((A ++ x :: B).map aA) wi nms) := by
 have e1 : al (O (k + 1)) (bD ((A ++ x :: B).map aA) wi nms) (.lst dr) (.int ((new : Int) - 1)) = some (nI r) := by
  rw [show ((new : Int) - 1) = ((new - 1 : Nat) : Int) by lia]
  exact bZ rfl hdr (by lia)
 have e2 := cQ (σ := bD ((A ++ x :: B).map aA) wi nms) (a := r) (b := 12) (by decide)
 have e3 := cQ (σ := bD ((A ++ x :: B).map aA) wi nms) (a := r % 12) (b := new) h0
 have e4 := aM (o := O (k + 1)) (f := am sP) (n := 96) (e := uP) (lk := some 0) (ρ := pR sc dr jo ++ [(S "new", nI new), (S "r", nI r), (S "old", nI (r % 12 % new))]) (σ := bD ((A ++ x :: B).map aA) wi nms) (σ₁ := [.lock ((A ++ x :: B).map aA), .lst wi, .lst nms]) (σ₂ := bD ((A ++ x :: B).map aA) wi nms) aA (fun y => some (.int y.2.1)) (A ++ x :: B) (by kernel_rfl) (ac (p := []) (by kernel_rfl) trivial) (by rw [List.length_append, List.length_cons]; exact Nat.le_trans (by lia : _ ≤ 1000) (by decide)) (fun y _ => ac (p := []) (by kernel_rfl) trivial) rfl
 rw [List.filterMap_eq_map'] at e4
 have e5 := uU (o := O (k + 1)) (σ := bD ((A ++ x :: B).map aA) wi nms) hA hl hs
 rw [hx] at e5
 generalize ((A ++ x :: B).map fun y => D.int y.2.1) = os at *
 generalize A.length = kk at *
 generalize (A ++ x :: B).map aA = pg at *
 generalize r % 12 % new = o at *
 generalize r % 12 = u at *
 exact ac (p := [.skip 0, .d (nI r), .d (nI u), .d (nI o), .s (.lst os, bD pg wi nms), .s (nI kk, bD pg wi nms)]) (by kernel_rfl) (aI e1 (aI e2 (aI e3 (aI e4 (aI e5 trivial)))))
noncomputable def Hb (d : Option D) : aj := match d with | none => [] | some d => [(S "runs", d)]
noncomputable def E8 (new r o kk : Nat) (ld bs : List Nat) (d : Option D) : aj := E9 new r o kk ++ [(S "lead", .str ld), (S "beside", .str bs)] ++ Hb d
theorem rA {o : aO} {σ : aa} {s : List Nat} (h : s.length ≤ 1000) : aq o .split σ (.str s) [.str [9]] = some (.lst ((ce s).map .str), σ) := by
 have h1 : decide (s.length + 2 ≤ cC) = true := decide_eq_true (Nat.le_trans (Nat.add_le_add_right h 2) (by decide))
 delta aq ce
 simp only [lO, fS, Option.bind_some, List.map_map]
 rw [h1]
 rfl
theorem vR {l : List D} (a b : Option Int) {σ : aa} (h : l.length ≤ 1000) : cI σ (.lst l) a b = some (.lst (cut l a b)) := by
 delta cI
 simp only [Bu, Option.bind_none, Option.none_or]
 rw [show aF σ (.lst l) = some l from rfl, Option.bind_some, decide_eq_true (Nat.le_trans h (by decide))]
 rfl
theorem pF (n : Nat) : clipAt n (-1) = n - 1 := clipAt_neg n 1 (Nat.le_refl 1)
theorem vk {l : List (List Nat)} (h : l.length ≤ 1000) (h2 : (l.map (·.length)).sum ≤ 1000) : mc [9] (l.map .str) = some (bz l) := by
 delta mc
 rw [oz, Option.bind_some, List.map_map]
 have e : ((fun x : Str => x.length) ∘ fun x : List Nat => (⟨x.toArray⟩ : Str)) = fun x : List Nat => x.length := funext eE
 rw [e, List.length_map, decide_eq_true (by simp only [List.length_cons, List.length_nil]; exact Nat.le_trans (by lia : _ ≤ 2000) (by decide)), ← nA]
 rfl
theorem sy {o : aO} {σ : aa} {l : List (List Nat)} (h : l.length ≤ 1000) (h2 : (l.map (·.length)).sum ≤ 1000) : aq o .join σ (.str [9]) [.lst (l.map .str)] = some (.str (bz l), σ) := by
 delta aq
 simp only [lO, fS, Option.bind_some]
 rw [show aF σ (.lst (l.map .str)) = some (l.map .str) from rfl, Option.bind_some, vk h h2]
 rfl
theorem xy (s : List Nat) : (ce s).length ≤ s.length + 1 ∧ ((ce s).map (·.length)).sum ≤ s.length := by
 obtain ⟨rs, l, e1, _⟩ := m4 s
 have h := eH rs l
 rw [← e1, iO] at h
 rw [e1]
 have h3 : ∀ rs : List (List Nat), (rs.map fun x => x.length + 1).sum = (rs.map (·.length)).sum + rs.length := fun rs => by
  induction rs with
  | nil => rfl
  | cons x rs ih => simp only [List.map_cons, List.sum_cons, List.length_cons, ih]; lia
 rw [h3] at h
 simp only [List.length_append, List.length_singleton, List.map_append, List.map_cons, List.map_nil, List.sum_append, List.sum_cons, List.sum_nil]
 lia
theorem rL {o : aO} {A B : List mS} {x : mS} {wi nms : List D} (h : A.length < 1000) : al o (bD ((A ++ x :: B).map aA) wi nms) (.ptr 0) (nI A.length) = some (aA x) :=
 bZ (l := (A ++ x :: B).map aA) (bX rfl) (by rw [List.getElem?_map, List.getElem?_append_right (Nat.le_refl _), Nat.sub_self]; rfl) (by lia)
theorem Hk (k : Nat) (sc dr : List D) (jo new r o : Nat) (A B : List mS) (x : mS) (wi nms : List D) (hl : A.length + B.length ≤ 500) (hx : x.1.length ≤ 40) :
  ∃ d, (ba (ex (O (k + 1)) (am sP) 2000 99) (((bN b1).drop 3).take 3) (pR sc dr jo ++ E9 new r o A.length) (bD ((A ++ x :: B).map aA) wi nms)).run = some (.next, pR sc dr jo ++ E8 new r o A.length (x.1 ++ sfxT.getD (r / 24 % 3) []) (qD (r / 72 % 2 == 1) (x.1 ++ sfxT.getD (r / 24 % 3) [])) d, bD ((A ++ x :: B).map aA) wi nms) := by
 have h3 : r / 24 % 3 < 3 := Nat.mod_lt _ (by decide)
 have hsf : (sfxT.getD (r / 24 % 3) []).length ≤ 2 := by
  generalize r / 24 % 3 = i at h3
  rcases i with _ | _ | _ | i
  ·decide
  ·decide
  ·decide
  ·lia
 have e0 := rL (o := O (k + 1)) (A := A) (B := B) (x := x) (wi := wi) (nms := nms) (by lia)
 have e1 := dy (σ := bD ((A ++ x :: B).map aA) wi nms) (a := r) (b := 24) (by decide) (by decide)
 have e2 := cQ (σ := bD ((A ++ x :: B).map aA) wi nms) (a := r / 24) (b := 3) (by decide)
 have e3 : al (O (k + 1)) (bD ((A ++ x :: B).map aA) wi nms) (.lst [.str [9], .str [32], .str [32, 9]]) (nI (r / 24 % 3)) = some (.str (sfxT.getD (r / 24 % 3) [])) := iu (l := sfxT) h3 (by lia)
 have e4 := ln (σ := bD ((A ++ x :: B).map aA) wi nms) (x := x.1) (y := sfxT.getD (r / 24 % 3) []) (by lia)
 have e5 := dy (σ := bD ((A ++ x :: B).map aA) wi nms) (a := r) (b := 72) (by decide) (by decide)
 have e6 := cQ (σ := bD ((A ++ x :: B).map aA) wi nms) (a := r / 72) (b := 2) (by decide)
 have e7 : some (false != (((r / 72 % 2 : Nat) : Int) == 1)) = some (r / 72 % 2 == 1) := by rw [bv, show (((r / 72 % 2 : Nat) : Int) == 1) = (r / 72 % 2 == 1) from bQ _ 1]
 have hld : (x.1 ++ sfxT.getD (r / 24 % 3) []).length ≤ 42 := by rw [List.length_append]; lia
 generalize sfxT.getD (r / 24 % 3) [] = sf at *
 generalize r / 24 % 3 = v at *
 generalize r / 24 = u at *
 generalize hcc : (r / 72 % 2 == 1) = c at *
 generalize r / 72 % 2 = v2 at *
 generalize r / 72 = u2 at *
 generalize A.length = kk at *
 generalize (A ++ x :: B).map aA = pg at *
 obtain ⟨l0, w0, wd0⟩ := x
 simp only at e4 hld hx ⊢
 generalize l0 ++ sf = ld at *
 cases c with
 | false =>
  refine ⟨none, ?_⟩
  exact ac (p := [.d (aA (l0, w0, wd0)), .skip 0, .d (nI u), .d (nI v), .d (.str sf), .d (.str ld), .d (nI u2), .d (nI v2), .b false]) (by kernel_rfl) (aI e0 (aI e1 (aI e2 (aI e3 (aI e4 (aI e5 (aI e6 (aI e7 trivial))))))))
 | true =>
  have hz := xy ld
  have z1 := rA (o := O (k + 1)) (σ := bD pg wi nms) (s := ld) (by lia)
  have hlen : ((ce ld).map D.str).length = (ce ld).length := List.length_map ..
  have z2 := vR (l := (ce ld).map D.str) none (some (-1)) (σ := bD pg wi nms) (by rw [hlen]; lia)
  have z3 := vR (l := (ce ld).map D.str) (some (-1)) none (σ := bD pg wi nms) (by rw [hlen]; lia)
  have c1 : cut ((ce ld).map D.str) none (some (-1)) = (ce ld).dropLast.map D.str := by
   delta cut
   simp only [Option.elim_none, Option.elim_some, pF, hlen, List.drop_zero, Nat.sub_zero]
   rw [← List.map_take, List.dropLast_eq_take]
  have c2 : cut ((ce ld).map D.str) (some (-1)) none = ((ce ld).drop ((ce ld).length - 1)).map D.str := by
   delta cut
   simp only [Option.elim_none, Option.elim_some, pF, hlen]
   rw [List.take_of_length_le (by rw [List.length_drop, hlen]; exact Nat.le_refl _), List.map_drop]
  have hls : ((ce ld).dropLast.reverse ++ (ce ld).drop ((ce ld).length - 1)).length ≤ 1000 := by simp only [List.length_append, List.length_reverse, List.length_dropLast, List.length_drop]; lia
  have hsum : (((ce ld).dropLast.reverse ++ (ce ld).drop ((ce ld).length - 1)).map (·.length)).sum ≤ 1000 := by
   obtain ⟨rs, l, f1, _⟩ := m4 ld
   have h := hz.2
   rw [f1] at h ⊢
   rw [List.dropLast_concat, show (rs ++ [l]).length - 1 = rs.length by rw [List.length_append]; rfl, List.drop_left]
   simp only [List.map_append, List.map_reverse, List.sum_append, iq, List.map_cons, List.map_nil, List.sum_cons, List.sum_nil] at h ⊢
   lia
  rw [c1] at z2
  rw [c2] at z3
  have z4 : aB .Add (bD pg wi nms) (.lst ((ce ld).dropLast.map D.str).reverse) (.lst (((ce ld).drop ((ce ld).length - 1)).map D.str)) = some (.lst (((ce ld).dropLast.reverse ++ (ce ld).drop ((ce ld).length - 1)).map .str)) := by
   rw [gK rfl rfl (by rw [List.length_append] at hls; rw [List.length_reverse, List.length_map, List.length_map]; rw [List.length_reverse] at hls; lia) rfl rfl, List.map_append, List.map_reverse]
  have z5 := sy (o := O (k + 1)) (σ := bD pg wi nms) hls hsum
  have z6 : decide (((ce ld).dropLast.map D.str).length ≤ cC) = true := by
   rw [List.length_map, List.length_dropLast]
   exact decide_eq_true (Nat.le_trans (by lia : _ ≤ 1000) (by decide))
  refine ⟨some (.lst ((ce ld).map .str)), ?_⟩
  have hb : qD true ld = bz ((ce ld).dropLast.reverse ++ (ce ld).drop ((ce ld).length - 1)) := rfl
  rw [hb]
  generalize bz ((ce ld).dropLast.reverse ++ (ce ld).drop ((ce ld).length - 1)) = bs at *
  generalize ((ce ld).dropLast.reverse ++ (ce ld).drop ((ce ld).length - 1)).map D.str = r3 at *
  generalize ((ce ld).drop ((ce ld).length - 1)).map D.str = r2 at *
  generalize (ce ld).dropLast.map D.str = r1 at *
  generalize (ce ld).map D.str = rs at *
  exact ac (p := [.d (aA (l0, w0, wd0)), .skip 0, .d (nI u), .d (nI v), .d (.str sf), .d (.str ld), .d (nI u2), .d (nI v2), .b true, .skip 0, .s (.lst rs, bD pg wi nms), .d (.lst r1), .b true, .d (.lst r2), .d (.lst r3), .s (.str bs, bD pg wi nms)]) (by kernel_rfl) (aI e0 (aI e1 (aI e2 (aI e3 (aI e4 (aI e5 (aI e6 (aI e7 (aI z1 (aI z2 (aI z6 (aI z3 (aI z4 (aI z5 trivial))))))))))))))
end
section
noncomputable def bK (l : List (List Nat)) : D := .lst (l.map .str)
noncomputable def E7 (new r o kk : Nat) (ld bs wo : List Nat) (d : Option D) : aj := E8 new r o kk ld bs d ++ [(S "word", .str wo)]
theorem Hj (k : Nat) (sc dr : List D) (jo new r o kk : Nat) (ld bs : List Nat) (d : Option D) (pg wi : List D) (nms : List (List (List Nat))) (ns : List (List Nat)) (hns : nms[new]? = some ns) (h3 : ns.length = 3) (hn : new ≤ 4) (hz : (ns.getD (r / 576 % 3) []).length ≤ 10) :
  (ba (ex (O (k + 1)) (am sP) 2000 99) (((bN b1).drop 6).take 2) (pR sc dr jo ++ E8 new r o kk ld bs d) (bD pg wi (nms.map bK))).run = some (.next, pR sc dr jo ++ E7 new r o kk ld bs (ns.getD (r / 576 % 3) [] ++ rmkT.getD (r / 144 % 4) []) d, bD pg wi ((nms.set new [ns.getD (r / 576 % 3) []]).map bK)) := by
 have hlt : new < nms.length := (List.getElem?_eq_some_iff.mp hns).1
 have hv : r / 576 % 3 < 3 := Nat.mod_lt _ (by decide)
 have hw : r / 144 % 4 < 4 := Nat.mod_lt _ (by decide)
 have hrm : (rmkT.getD (r / 144 % 4) []).length ≤ 5 := by
  generalize r / 144 % 4 = i at hw
  rcases i with _ | _ | _ | _ | i
  ·decide
  ·decide
  ·decide
  ·decide
  ·lia
 have e0 : al (O (k + 1)) (bD pg wi (nms.map bK)) (.ptr 2) (nI new) = some (bK ns) := bZ (l := nms.map bK) (bX rfl) (by rw [List.getElem?_map, hns]; rfl) (by lia)
 have e1 := dy (σ := bD pg wi (nms.map bK)) (a := r) (b := 576) (by decide) (by decide)
 have e2 := cQ (σ := bD pg wi (nms.map bK)) (a := r / 576) (b := 3) (by decide)
 have e3 : al (O (k + 1)) (bD pg wi (nms.map bK)) (bK ns) (nI (r / 576 % 3)) = some (.str (ns.getD (r / 576 % 3) [])) := iu (l := ns) (by lia) (by lia)
 have e5 : decide (0 ≤ (new : Int) ∧ (new : Int) < ((nms.map bK).length : Nat) ∧ (new : Int) ≤ 16000000) = true := by rw [decide_eq_true_iff, List.length_map]; lia
 generalize hnm : ns.getD (r / 576 % 3) [] = nm at *
 have hset : (nms.set new [nm]).map bK = (nms.map bK).set new (.lst [.str nm]) := by rw [List.map_set]; rfl
 rw [hset]
 have e6 : al (O (k + 1)) (bD pg wi ((nms.map bK).set new (.lst [.str nm]))) (.ptr 2) (nI new) = some (.lst [.str nm]) := bZ (l := (nms.map bK).set new (.lst [.str nm])) (bX rfl) (by rw [List.getElem?_set_self (by rw [List.length_map]; exact hlt)]) (by lia)
 have e8 := dy (σ := bD pg wi ((nms.map bK).set new (.lst [.str nm]))) (a := r) (b := 144) (by decide) (by decide)
 have e9 := cQ (σ := bD pg wi ((nms.map bK).set new (.lst [.str nm]))) (a := r / 144) (b := 4) (by decide)
 have e10 : al (O (k + 1)) (bD pg wi ((nms.map bK).set new (.lst [.str nm]))) (.lst [.str [], .str [34, 43, 40, 34], .str [34, 41, 47, 47, 34], .str [34, 92, 34, 40, 34]]) (nI (r / 144 % 4)) = some (.str (rmkT.getD (r / 144 % 4) [])) := iu (l := rmkT) hw (by lia)
 have e11 := ln (σ := bD pg wi ((nms.map bK).set new (.lst [.str nm]))) (x := nm) (y := rmkT.getD (r / 144 % 4) []) (by lia)
 generalize nm ++ rmkT.getD (r / 144 % 4) [] = wo at *
 generalize rmkT.getD (r / 144 % 4) [] = rm at *
 generalize r / 144 % 4 = v2 at *
 generalize r / 144 = u2 at *
 clear hnm
 generalize r / 576 % 3 = v at *
 generalize r / 576 = u at *
 generalize bK ns = dn at *
 clear hset
 generalize nms.map bK = nl at *
 refine ac (p := [.d dn, .d (nI u), .d (nI v), .d (.str nm), .d (.lst nl), .b true, .d (.lst [.str nm]), .skip 0, .d (nI u2), .d (nI v2), .d (.str rm), .d (.str wo)])
  (g := al (O (k + 1)) (bD pg wi nl) (.ptr 2) (nI new) = some dn ∧ aB .FloorDiv (bD pg wi nl) (nI r) (nI 576) = some (nI u) ∧ aB .Mod (bD pg wi nl) (nI u) (nI 3) = some (nI v) ∧ al (O (k + 1)) (bD pg wi nl) dn (nI v) = some (.str nm) ∧ some (D.lst nl) = some (D.lst nl) ∧ decide (0 ≤ (new : Int) ∧ (new : Int) < (nl.length : Nat) ∧ (new : Int) ≤ 16000000) = true ∧
   al (O (k + 1)) (bD pg wi (nl.set new (.lst [.str nm]))) (.ptr 2) (nI new) = some (.lst [.str nm]) ∧ aB .FloorDiv (bD pg wi (nl.set new (.lst [.str nm]))) (nI r) (nI 144) = some (nI u2) ∧ aB .Mod (bD pg wi (nl.set new (.lst [.str nm]))) (nI u2) (nI 4) = some (nI v2) ∧
   al (O (k + 1)) (bD pg wi (nl.set new (.lst [.str nm]))) (.lst [.str [], .str [34, 43, 40, 34], .str [34, 41, 47, 47, 34], .str [34, 92, 34, 40, 34]]) (nI v2) = some (.str rm) ∧ aB .Add (bD pg wi (nl.set new (.lst [.str nm]))) (.str nm) (.str rm) = some (.str wo) ∧ True) ?_ ⟨e0, e1, e2, e3, rfl, e5, e6, e8, e9, e10, e11, trivial⟩
 clear e0 e1 e2 e3 e5 e6 e8 e9 e10 e11
 cases d <;> kernel_rfl
noncomputable def E6 (new r o kk : Nat) (ld bs wo : List Nat) (a b : Nat) (sg : Bool) (d : Option D) : aj := E7 new r o kk ld bs wo d ++ [(S "near", nI a), (S "far", nI b), (S "sign", .str (cw sg))]
theorem Hi (k : Nat) (sc dr : List D) (jo new r o kk : Nat) (ld bs wo : List Nat) (d : Option D) (pg nms : List D) (wi : List (Nat × Nat)) (a b : Nat) (sg : Bool) (hw : wi[o]? = some (a, b)) (hv : r / 12 % 2 = jO sg) (ho : o ≤ 10) (hl : wi.length ≤ 100) :
  (ba (ex (O (k + 1)) (am sP) 2000 99) (((bN b1).drop 8).take 5) (pR sc dr jo ++ E7 new r o kk ld bs wo d) (bD pg (wi.map ad) nms)).run = some (.next, pR sc dr (jo + (1 - jO sg)) ++ E6 new r o kk ld bs wo a b sg d, bD pg ((cg wi o a b jo sg).map ad) nms) := by
 have hlt : o < wi.length := (List.getElem?_eq_some_iff.mp hw).1
 have e0 : al (O (k + 1)) (bD pg (wi.map ad) nms) (.ptr 1) (nI o) = some (.tup [nI a, nI b]) := bZ (l := wi.map ad) (bX rfl) (by rw [List.getElem?_map, hw]; rfl) (by lia)
 have e1 : ∀ σ, aB .FloorDiv σ (nI r) (nI 12) = some (nI (r / 12)) := fun σ => dy (σ := σ) (a := r) (b := 12) (by decide) (by decide)
 have e2 : ∀ σ, aB .Mod σ (nI (r / 12)) (nI 2) = some (nI (r / 12 % 2)) := fun σ => cQ (σ := σ) (a := r / 12) (b := 2) (by decide)
 rw [hv] at e2
 have e3 : al (O (k + 1)) (bD pg (wi.map ad) nms) (.lst [.str [43], .str [47, 47]]) (nI (jO sg)) = some (.str (cw sg)) := by
  clear hv e2; cases sg <;> exact iu (l := [[43], [47, 47]]) (by decide) (by decide)
 have e5 : decide (0 ≤ (o : Int) ∧ (o : Int) < ((wi.map ad).length : Nat) ∧ (o : Int) ≤ 16000000) = true := by rw [decide_eq_true_iff, List.length_map]; lia
 have e6 : aq (O (k + 1)) .append (bD pg ((wi.map ad).set o (.tup [nI a, nI (if sg then b else jo)])) nms) (.ptr 1) [.tup [nI (if sg then a else jo), nI b]] = some (.none, bD pg ((cg wi o a b jo sg).map ad) nms) := bw (l := (wi.map ad).set o (.tup [nI a, nI (if sg then b else jo)])) rfl (by rw [List.length_set, List.length_map]; lia) (by unfold cg; rw [List.map_append, List.map_set]; rfl)
 generalize hW : (cg wi o a b jo sg).map ad = wl' at *
 clear hW
 generalize wi.map ad = wl at *
 generalize r / 12 = u at *
 refine ac (p := [.d (.tup [nI a, nI b]), .d (nI u), .d (nI (jO sg)), .d (.str (cw sg)), .skip 1, .d (.lst wl), .b true, .skip 2, .s (.none, bD pg wl' nms), .d (nI u), .d (nI (jO sg))])
  (g := al (O (k + 1)) (bD pg wl nms) (.ptr 1) (nI o) = some (.tup [nI a, nI b]) ∧ aB .FloorDiv (bD pg wl nms) (nI r) (nI 12) = some (nI u) ∧ aB .Mod (bD pg wl nms) (nI u) (nI 2) = some (nI (jO sg)) ∧ al (O (k + 1)) (bD pg wl nms) (.lst [.str [43], .str [47, 47]]) (nI (jO sg)) = some (.str (cw sg)) ∧ some (D.lst wl) = some (D.lst wl) ∧
   decide (0 ≤ (o : Int) ∧ (o : Int) < (wl.length : Nat) ∧ (o : Int) ≤ 16000000) = true ∧ aq (O (k + 1)) .append (bD pg (wl.set o (.tup [nI a, nI (if sg then b else jo)])) nms) (.ptr 1) [.tup [nI (if sg then a else jo), nI b]] = some (.none, bD pg wl' nms) ∧ aB .FloorDiv (bD pg wl' nms) (nI r) (nI 12) = some (nI u) ∧ aB .Mod (bD pg wl' nms) (nI u) (nI 2) = some (nI (jO sg)) ∧ True) ?_ ⟨e0, e1 _, e2 _, e3, rfl, e5, e6, e1 _, e2 _, trivial⟩
 clear e0 e1 e2 e3 e5 e6 hv
 cases sg <;> cases d <;> kernel_rfl
theorem Hh (k : Nat) (sc dr : List D) (jo new r o : Nat) (ld bs wo : List Nat) (d : Option D) (A B : List mS) (x : mS) (wi nms : List D) (a b : Nat) (sg : Bool) (hl : A.length + B.length ≤ 500) (hx : x.2.1 = (o : Int)) :
  (ba (ex (O (k + 1)) (am sP) 2000 99) ((bN b1).drop 13) (pR sc dr jo ++ E6 new r o A.length ld bs wo a b sg d) (bD ((A ++ x :: B).map aA) wi nms)).run = some (.next, pR sc dr jo ++ E6 new r o A.length ld bs wo a b sg d, bD ((A ++ (x.1, -1, cw sg) :: (ld, (o : Int), x.2.2) :: (bs, (new : Int), wo) :: B).map aA) wi nms) := by
 have e0 := rL (o := O (k + 1)) (A := A) (B := B) (x := x) (wi := wi) (nms := nms) (by lia)
 have e5 : decide (0 ≤ (A.length : Int) ∧ (A.length : Int) ≤ (A.length : Int) + 1 ∧ (A.length : Int) + 1 ≤ (((A ++ x :: B).map aA).length : Nat) ∧ ((A ++ x :: B).map aA).length + [D.lst [.str x.1, .int (-1), .str (cw sg)], .lst [.str ld, nI o, .str x.2.2], .lst [.str bs, nI new, .str wo]].length ≤ cC) = true := by
  rw [decide_eq_true_iff, List.length_map, List.length_append, List.length_cons]
  refine ⟨by lia, by lia, by lia, ?_⟩
  exact Nat.le_trans (by simp only [List.length_cons, List.length_nil]; lia : _ ≤ 1000) (by decide)
 have hpg : ((A ++ x :: B).map aA).take ((A.length : Int)).toNat ++ [D.lst [.str x.1, .int (-1), .str (cw sg)], .lst [.str ld, nI o, .str x.2.2], .lst [.str bs, nI new, .str wo]] ++ ((A ++ x :: B).map aA).drop ((A.length : Int) + 1).toNat = (A ++ (x.1, -1, cw sg) :: (ld, (o : Int), x.2.2) :: (bs, (new : Int), wo) :: B).map aA := by
  rw [show ((A.length : Int)).toNat = (A.map aA).length by rw [List.length_map]; lia, show ((A.length : Int) + 1).toNat = (A.map aA).length + 1 by rw [List.length_map]; lia, List.map_append, List.take_left, List.map_cons, ← List.drop_drop, List.drop_left, List.map_append]
  simp only [List.map_cons, List.append_assoc]
  rfl
 rw [← hpg]
 obtain ⟨l0, w0, wd0⟩ := x
 simp only at hx e5 ⊢
 subst hx
 generalize A.length = kk at *
 generalize (A ++ (l0, (o : Int), wd0) :: B).map aA = pg at *
 refine ac (p := [.d (aA (l0, (o : Int), wd0)), .skip 0, .d (aA (l0, (o : Int), wd0)), .skip 1, .b true]) ?_ (aI e0 (aI e0 (aI e5 trivial)))
 clear e0 e5 hpg
 cases d <;> kernel_rfl
end
section
section
variable (r : Nat → Nat)
noncomputable def bf (i : Nat) : List Nat := if i == 0 then [65] else (nmT.getD i []).getD (r i / 576 % 3) []
noncomputable def BC (i : Nat) : List Nat := if i == 0 then [] else rmkT.getD (r i / 144 % 4) []
noncomputable def gM (i : Nat) : List Nat := bf r i ++ BC r i
noncomputable def oF (n : Nat) : Nat := r n % 12 % n
noncomputable def gU (n : Nat) : Bool := r n / 12 % 2 == 1
noncomputable def uF (n : Nat) : List Nat := sfxT.getD (r n / 24 % 3) []
noncomputable def Bf (n : Nat) : Bool := r n / 72 % 2 == 1
noncomputable abbrev tI := Tr × List (Nat × Nat) × Nat
noncomputable def iM (n : Nat) (s : tI) : tI := (s.1.put (oF r n) n (gU r n) (uF r n) (Bf r n), cg s.2.1 (oF r n) (s.2.1.getD (oF r n) (0, 0)).1 (s.2.1.getD (oF r n) (0, 0)).2 s.2.2 (gU r n), s.2.2 + (1 - jO (gU r n)))
noncomputable def aN : Nat → tI
 | 0 => (.leaf [] 0, [(0, 1)], 2)
 | n + 1 => iM r (n + 1) (aN n)
end
theorem du (wd : Nat → List Nat) : ∀ t : Tr, (bu wd t).length = t.size
 | .leaf _ _ => rfl
 | .node _ _ a b => by simp only [bu, List.length_cons, List.length_append, du wd a, du wd b, Tr.size]; lia
theorem fV {wd : Nat → List Nat} {N : Nat} : ∀ {t : Tr}, gLd N t → ∀ y ∈ bu wd t, y.1.length ≤ N ∧ (y.2.1 = -1 ∨ ∃ i ∈ t.wires, y.2.1 = (i : Int))
 | .leaf l w, g, y, hy => by
  rw [List.mem_singleton.mp hy]
  exact ⟨g.2, .inr ⟨w, List.mem_singleton.mpr rfl, rfl⟩⟩
 | .node l s a b, g, y, hy => by
  rcases List.mem_cons.mp hy with rfl | hy
  ·exact ⟨g.2.1, .inl rfl⟩
  ·rcases List.mem_append.mp hy with hy | hy
   ·have h := fV g.2.2.1 y hy
    exact ⟨h.1, h.2.imp id fun ⟨i, hi, e⟩ => ⟨i, List.mem_append_left _ hi, e⟩⟩
   ·have h := fV g.2.2.2.1 y hy
    exact ⟨h.1, h.2.imp id fun ⟨i, hi, e⟩ => ⟨i, List.mem_append_right _ hi, e⟩⟩
theorem gr {α : Type} {l : List α} {i : Nat} {d : α} (h : i < l.length) : l.getD i d ∈ l := by
 rw [List.getD_eq_getElem?_getD, List.getElem?_eq_getElem h]
 exact List.getElem_mem h
theorem xE (r : Nat → Nat) (n : Nat) : Bl (uF r n) ∧ uF r n ≠ [] ∧ (uF r n).length ≤ 2 := by
 have h : uF r n ∈ sfxT := gr (Nat.mod_lt _ (by decide))
 generalize uF r n = s at h
 have : ∀ s ∈ sfxT, (s.all fun c => c == 32 || c == 9) = true ∧ s ≠ [] ∧ s.length ≤ 2 := by decide
 obtain ⟨h1, h2, h3⟩ := this s h
 refine ⟨fun c hc => ?_, h2, h3⟩
 simpa using List.all_eq_true.mp h1 c hc
structure Gz (r : Nat → Nat) (n : Nat) : Prop where
 nodup : (aN r n).1.wires.Nodup
 mem : ∀ i, i ∈ (aN r n).1.wires ↔ i ≤ n
 lead : gLd (2 * n) (aN r n).1
 size : (aN r n).1.size = 2 * n + 1
 wlen : (aN r n).2.1.length = n + 1
 jlo : 2 ≤ (aN r n).2.2
 jhi : (aN r n).2.2 ≤ n + 2
 wlt : ∀ w ∈ (aN r n).2.1, w.1 < (aN r n).2.2 ∧ w.2 < (aN r n).2.2
theorem lS (r : Nat → Nat) (n : Nat) : oF r (n + 1) ≤ n := Nat.le_of_lt_succ (Nat.mod_lt _ (Nat.succ_pos n))
theorem uR (r : Nat → Nat) : ∀ n, Gz r n
 | 0 => ⟨by show ([0] : List Nat).Nodup; decide, fun i => by show i ∈ [0] ↔ i ≤ 0; simp, ⟨(fun c h => by cases h), Nat.le_refl 0⟩, rfl, rfl, Nat.le_refl 2, Nat.le_refl 2, fun w hw => by rw [List.mem_singleton.mp hw]; exact ⟨(by decide : (0 : Nat) < 2), (by decide : (1 : Nat) < 2)⟩⟩
 | n + 1 => by
  have I := uR r n
  have ho := (I.mem _).mpr (lS r n)
  have hs := xE r (n + 1)
  have hlt : oF r (n + 1) < (aN r n).2.1.length := by rw [I.wlen]; exact Nat.lt_succ_of_le (lS r n)
  have hw := I.wlt _ (gr (d := (0, 0)) hlt)
  refine ⟨gW ho I.nodup fun h => Nat.not_succ_le_self n ((I.mem _).mp h), fun i => ?_, I.lead.put hs.1 hs.2.1 hs.2.2, ?_, ?_, ?_, ?_, fun w h => ?_⟩
  ·show i ∈ (Tr.put _ _ _ _ _ (aN r n).1).wires ↔ _
   rw [fX ho, I.mem]
   lia
  ·obtain ⟨A, B, l, e1, _, e3⟩ := fW (new := n + 1) (sg := gU r (n + 1)) (sf := uF r (n + 1)) (tn := Bf r (n + 1)) (wd := fun _ => []) ho I.nodup
   show (Tr.put _ _ _ _ _ (aN r n).1).size = _
   rw [← du fun _ => [], e3]
   have h := I.size
   rw [← du fun _ => [], e1] at h
   simp only [List.length_append, List.length_cons] at h ⊢
   lia
  ·show (cg _ _ _ _ _ _).length = _
   unfold cg
   rw [List.length_append, List.length_set, I.wlen]; rfl
  ·exact Nat.le_add_right_of_le I.jlo
  ·show (aN r n).2.2 + _ ≤ _
   have := I.jhi
   lia
  ·show w.1 < (aN r n).2.2 + (1 - jO (gU r (n + 1))) ∧ w.2 < (aN r n).2.2 + (1 - jO (gU r (n + 1)))
   have h : w ∈ cg (aN r n).2.1 (oF r (n + 1)) ((aN r n).2.1.getD (oF r (n + 1)) (0, 0)).1 ((aN r n).2.1.getD (oF r (n + 1)) (0, 0)).2 (aN r n).2.2 (gU r (n + 1)) := h
   generalize (aN r n).2.1.getD (oF r (n + 1)) (0, 0) = ab at *
   unfold cg at h
   have hjo : (aN r n).2.2 ≤ (aN r n).2.2 + (1 - jO (gU r (n + 1))) := Nat.le_add_right _ _
   have key : w ∈ (aN r n).2.1 ∨ w = (ab.1, if gU r (n + 1) then ab.2 else (aN r n).2.2) ∨ w = (if gU r (n + 1) then ab.1 else (aN r n).2.2, ab.2) := by
    rcases List.mem_append.mp h with h | h
    ·rcases List.mem_or_eq_of_mem_set h with h | h
     ·exact .inl h
     ·exact .inr (.inl h)
    ·exact .inr (.inr (List.mem_singleton.mp h))
   cases hsg : gU r (n + 1) <;> rw [hsg] at key <;> rcases key with h | rfl | rfl <;> simp only [jO, if_true, Bool.false_eq_true, if_false] <;> first | (have := I.wlt w h; lia) | lia
end
section
theorem aX {ex' : mQ} {l l₂ : List Stmt} {ρ ρ₁ : aj} {σ σ₁ : aa} {r : Option (Fl × aj × aa)} (k : Nat) (h : (ba ex' (l.take k) ρ σ).run = some (.next, ρ₁, σ₁)) (hd : l.drop k = l₂) (h2 : (ba ex' l₂ ρ₁ σ₁).run = r) : (ba ex' l ρ σ).run = r := aw k h (by rw [hd]; exact h2)
theorem xP (k : Nat) (sc dr : List D) (jo new r : Nat) (A B : List mS) (x : mS) (wi : List (Nat × Nat)) (nms : List (List (List Nat))) (ns : List (List Nat)) (a b : Nat) (sg tn : Bool) (hdr : dr[new - 1]? = some (nI r)) (h0 : new ≠ 0) (hn : new ≤ 4) (hx : x.2.1 = ((r % 12 % new : Nat) : Int)) (hA : ∀ y ∈ A, y.2.1 ≠ x.2.1) (hl : A.length + B.length ≤ 500) (hs : ∀ y ∈ A ++ x :: B, small y.2.1 = true) (hx1 : x.1.length ≤ 40)
  (hns : nms[new]? = some ns) (h3 : ns.length = 3) (hz : (ns.getD (r / 576 % 3) []).length ≤ 10) (hw : wi[r % 12 % new]? = some (a, b)) (hv : r / 12 % 2 = jO sg) (hwl : wi.length ≤ 100) (htn : (r / 72 % 2 == 1) = tn) :
  (turn (am sP) (ex (O (k + 1)) (am sP) 2000 99) (cx b1) (bN b1) (nI new) (pR sc dr jo) (bD ((A ++ x :: B).map aA) (wi.map ad) (nms.map bK))).run = some (.next, pR sc dr (jo + (1 - jO sg)),
   bD ((A ++ (x.1, -1, cw sg) :: (x.1 ++ sfxT.getD (r / 24 % 3) [], ((r % 12 % new : Nat) : Int), x.2.2) :: (qD tn (x.1 ++ sfxT.getD (r / 24 % 3) []), (new : Int), ns.getD (r / 576 % 3) [] ++ rmkT.getD (r / 144 % 4) []) :: B).map aA) ((cg wi (r % 12 % new) a b jo sg).map ad) ((nms.set new [ns.getD (r / 576 % 3) []]).map bK)) := by
 have f1 := Hl k sc dr jo new r A B x (wi.map ad) (nms.map bK) hdr h0 hn hx hA hl hs
 obtain ⟨d, f2⟩ := Hk k sc dr jo new r (r % 12 % new) A B x (wi.map ad) (nms.map bK) hl hx1
 rw [htn] at f2
 have ho : r % 12 % new ≤ 10 := Nat.le_trans (Nat.le_of_lt (Nat.mod_lt _ (Nat.pos_of_ne_zero h0))) (by lia)
 have f3 := Hj k sc dr jo new r (r % 12 % new) A.length (x.1 ++ sfxT.getD (r / 24 % 3) []) (qD tn (x.1 ++ sfxT.getD (r / 24 % 3) [])) d ((A ++ x :: B).map aA) (wi.map ad) nms ns hns h3 hn hz
 have f4 := Hi k sc dr jo new r (r % 12 % new) A.length (x.1 ++ sfxT.getD (r / 24 % 3) []) (qD tn (x.1 ++ sfxT.getD (r / 24 % 3) [])) (ns.getD (r / 576 % 3) [] ++ rmkT.getD (r / 144 % 4) []) d ((A ++ x :: B).map aA) ((nms.set new [ns.getD (r / 576 % 3) []]).map bK) wi a b sg hw hv ho hwl
 have f5 := Hh k sc dr (jo + (1 - jO sg)) new r (r % 12 % new) (x.1 ++ sfxT.getD (r / 24 % 3) []) (qD tn (x.1 ++ sfxT.getD (r / 24 % 3) [])) (ns.getD (r / 576 % 3) [] ++ rmkT.getD (r / 144 % 4) []) d A B x ((cg wi (r % 12 % new) a b jo sg).map ad) ((nms.set new [ns.getD (r / 576 % 3) []]).map bK) a b sg hl hx
 generalize (x.1 ++ sfxT.getD (r / 24 % 3) []) = ld at *
 generalize ns.getD (r / 576 % 3) [] ++ rmkT.getD (r / 144 % 4) [] = wo at *
 generalize qD tn ld = bs at *
 have f9 := aX 3 f1 rfl (aX 3 f2 List.drop_drop (aX 2 f3 List.drop_drop (aX 5 f4 List.drop_drop f5)))
 exact fQ (ρ₁ := pR sc dr jo ++ [(S "new", nI new)]) (by kernel_rfl) f9 (by kernel_rfl)
noncomputable def gY (r : Nat → Nat) (n : Nat) : List (List (List Nat)) := (List.range 5).map fun i => if i ≤ n then [bf r i] else nmT.getD i []
theorem yA (r : Nat → Nat) : ∀ n, n < 4 → (gY r n)[n + 1]? = some (nmT.getD (n + 1) []) ∧ (nmT.getD (n + 1) []).length = 3 ∧ (gY r n).set (n + 1) [(nmT.getD (n + 1) []).getD (r (n + 1) / 576 % 3) []] = gY r (n + 1)
 | 0, _ => ⟨rfl, rfl, rfl⟩
 | 1, _ => ⟨rfl, rfl, rfl⟩
 | 2, _ => ⟨rfl, rfl, rfl⟩
 | 3, _ => ⟨rfl, rfl, rfl⟩
 | n + 4, h => absurd h (by lia)
theorem yC : ∀ n < 5, ∀ i < 3, ((nmT.getD n []).getD i []).length ≤ 2 := by decide
noncomputable def lq (r : Nat → Nat) : List D := [nI (r 1), nI (r 2), nI (r 3), nI (r 4)]
theorem DO (r : Nat → Nat) : ∀ n, n < 4 → (lq r)[n]? = some (nI (r (n + 1)))
 | 0, _ => rfl
 | 1, _ => rfl
 | 2, _ => rfl
 | 3, _ => rfl
 | n + 4, h => absurd h (by lia)
noncomputable def tL (r : Nat → Nat) (n : Nat) : aa := bD ((bu (gM r) (aN r n).1).map aA) ((aN r n).2.1.map ad) ((gY r n).map bK)
theorem pX {i : Nat} (h : i ≤ 10) : small (i : Int) = true := gR (by lia)
theorem ez (k : Nat) (sc : List D) (r : Nat → Nat) (n : Nat) (hn : n < 4) :
  (turn (am sP) (ex (O (k + 1)) (am sP) 2000 99) (cx b1) (bN b1) (nI (n + 1)) (pR sc (lq r) (aN r n).2.2) (tL r n)).run = some (.next, pR sc (lq r) (aN r (n + 1)).2.2, tL r (n + 1)) := by
 have I := uR r n
 have ho := (I.mem _).mpr (lS r n)
 obtain ⟨A, B, l, e1, e2, e3⟩ := fW (new := n + 1) (sg := gU r (n + 1)) (sf := uF r (n + 1)) (tn := Bf r (n + 1)) (wd := gM r) ho I.nodup
 have hlen := I.size
 rw [← du (gM r), e1, List.length_append, List.length_cons] at hlen
 have hrow : ∀ y ∈ A ++ (l, ((oF r (n + 1) : Nat) : Int), gM r (oF r (n + 1))) :: B, y.1.length ≤ 2 * n ∧ (y.2.1 = -1 ∨ ∃ i ∈ (aN r n).1.wires, y.2.1 = (i : Int)) := fun y hy => fV (wd := gM r) I.lead y (by rw [e1]; exact hy)
 have hN := yA r n hn
 have hlt : oF r (n + 1) < (aN r n).2.1.length := by rw [I.wlen]; exact Nat.lt_succ_of_le (lS r n)
 have hwi : (aN r n).2.1[oF r (n + 1)]? = some (((aN r n).2.1.getD (oF r (n + 1)) (0, 0)).1, ((aN r n).2.1.getD (oF r (n + 1)) (0, 0)).2) := by
  rw [List.getElem?_eq_getElem hlt, List.getD_eq_getElem?_getD, List.getElem?_eq_getElem hlt]; rfl
 have hv : r (n + 1) / 12 % 2 = jO (gU r (n + 1)) := by
  delta gU jO
  rcases Nat.mod_two_eq_zero_or_one (r (n + 1) / 12) with h | h <;> rw [h] <;> rfl
 have key := xP k sc (lq r) (aN r n).2.2 (n + 1) (r (n + 1)) A B (l, ((oF r (n + 1) : Nat) : Int), gM r (oF r (n + 1))) (aN r n).2.1 (gY r n) (nmT.getD (n + 1) []) _ _ (gU r (n + 1)) (Bf r (n + 1)) (DO r n hn) (Nat.succ_ne_zero n) hn rfl e2 (by lia) (fun y hy => by
  rcases (hrow y hy).2 with h | ⟨i, hi, h⟩
  ·rw [h]; decide
  ·rw [h]; exact pX (by have := (I.mem i).mp hi; lia)) (by
  have := (hrow _ (List.mem_append_right _ (List.mem_cons_self ..))).1
  simp only at this ⊢
  lia) hN.1 hN.2.1 (Nat.le_trans (yC (n + 1) (by lia) _ (Nat.mod_lt _ (by decide))) (by decide)) hwi hv (by rw [I.wlen]; lia) rfl
 delta tL
 rw [e1]
 show _ = some (Fl.next, pR sc (lq r) ((aN r n).2.2 + (1 - jO (gU r (n + 1)))), bD ((bu (gM r) (Tr.put (oF r (n + 1)) (n + 1) (gU r (n + 1)) (uF r (n + 1)) (Bf r (n + 1)) (aN r n).1)).map aA) ((cg (aN r n).2.1 (oF r (n + 1)) ((aN r n).2.1.getD (oF r (n + 1)) (0, 0)).1 ((aN r n).2.1.getD (oF r (n + 1)) (0, 0)).2 (aN r n).2.2 (gU r (n + 1))).map ad) ((gY r (n + 1)).map bK))
 rw [e3, ← hN.2.2]
 exact key
end
section
noncomputable def toldL : List Int := [1428, 361, 1104, 1286]
noncomputable def ii (l : List Int) : List Int := l.take 4 ++ toldL.drop (l.take 4).length
noncomputable def af (l : List Int) (i : Nat) : Nat := ((ii l).getD (i - 1) 0).fmod 1728 |>.toNat
theorem j8 (l : List Int) : (ii l).length = 4 := by
 have h : toldL.length = 4 := rfl
 delta ii
 rw [List.length_append, List.length_drop, List.length_take, h]
 lia
theorem sU (x : Int) : 0 ≤ x.fmod 1728 ∧ x.fmod 1728 < 1728 := ⟨Int.fmod_nonneg_of_pos x (by decide), Int.fmod_lt_of_pos x (by decide)⟩
theorem sj {α β : Type} (f : α → β) (d : α) (l : List α) : l.map f = (List.range l.length).map fun i => f (l.getD i d) := by
 refine List.ext_getElem (by rw [List.length_map, List.length_map, List.length_range]) fun i h1 h2 => ?_
 rw [List.length_map] at h1
 rw [List.getElem_map, List.getElem_map, List.getElem_range, List.getD_eq_getElem?_getD, List.getElem?_eq_getElem h1]; rfl
theorem DN (l : List Int) : (ii l).map (fun x => D.int (x.fmod 1728)) = lq (af l) := by
 have h := j8 l
 have e : ∀ x : Int, D.int (x.fmod 1728) = nI (x.fmod 1728).toNat := fun x => by delta nI; rw [Int.toNat_of_nonneg (sU x).1]
 delta lq af
 generalize ii l = xs at *
 rw [sj _ 0 xs, h]
 simp only [e]; rfl
theorem zA (n : Nat) : clipAt n 4 = min 4 n := clipAt_nat n 4
theorem vT (m : Nat) (h : m ≤ 4) : clipAt 4 (m : Int) = m := (clipAt_nat 4 m).trans (Nat.min_eq_left h)
noncomputable abbrev uD : Expr := oG (fH ((av sP).drop 1))
noncomputable abbrev uN : Expr := rZ (oG (fH b1.tail)) [3]
noncomputable abbrev rh : D := .lst [nI 1428, nI 361, nI 1104, nI 1286]
theorem qw (k : Nat) (l : List Int) (hl : l.length ≤ 63) : (cX (O (k + 1)) (am sP) 98 uD [(S "script", .lst (l.map .int)), (S "told", rh)] []).run = some (.lst (lq (af l)), []) := by
 have e0 : (l.map D.int).length = l.length := List.length_map ..
 have e1 : cI [] (.lst (l.map D.int)) none (some 4) = some (.lst ((l.take 4).map D.int)) := by
  rw [vR none (some 4) (by rw [e0]; lia)]
  delta cut
  simp only [Option.elim_none, Option.elim_some, zA, e0, List.drop_zero, Nat.sub_zero]
  rw [← List.map_take, show l.take (min 4 l.length) = l.take 4 from by rw [← List.take_take, List.take_of_length_le (Nat.le_refl l.length)]]
 have hm : (l.take 4).length ≤ 4 := by rw [List.length_take]; lia
 have e2 : ak (S "len") [] [.lst ((l.take 4).map D.int)] = some (nI (l.take 4).length) := eA rfl rfl (List.length_map ..) (by lia)
 have e3 : cI [] rh (some ((l.take 4).length : Int)) none = some (.lst ((toldL.drop (l.take 4).length).map D.int)) := by
  rw [vR (some ((l.take 4).length : Int)) none (by decide)]
  have ht : ([nI 1428, nI 361, nI 1104, nI 1286] : List D) = toldL.map D.int := rfl
  have h4 : (toldL.map D.int).length = 4 := rfl
  delta cut
  simp only [Option.elim_none, Option.elim_some]
  rw [ht, h4, vT _ hm, ← List.map_drop, List.take_of_length_le (by rw [List.length_map, List.length_drop]; exact Nat.le_refl _)]
 have e4 : aB .Add [] (.lst ((l.take 4).map D.int)) (.lst ((toldL.drop (l.take 4).length).map D.int)) = some (.lst ((ii l).map D.int)) := by
  rw [gK rfl rfl (by rw [List.length_map, List.length_map, List.length_drop]; have : toldL.length = 4 := rfl; lia) rfl rfl, ← List.map_append]; rfl
 have := aM (o := O (k + 1)) (f := am sP) (n := 98) (e := uD) (lk := none) (ρ := [(S "script", .lst (l.map .int)), (S "told", rh)]) (σ := []) (σ₁ := []) (σ₂ := []) D.int (fun x => some (.int (x.fmod 1728))) (ii l) (by kernel_rfl) ?_ (by rw [j8]; decide) (fun x _ => ac (p := []) (by kernel_rfl) trivial) rfl
 ·rw [this, List.filterMap_eq_map', DN]
 ·generalize (ii l).map D.int = xs at *
  generalize (toldL.drop (l.take 4).length).map D.int = ts at *
  generalize (l.take 4).length = m at *
  generalize (l.take 4).map D.int = l4 at *
  generalize l.map D.int = sc at *
  exact ac (p := [.d (.lst l4), .d (.lst l4), .d (nI m), .d (.lst ts), .d (.lst xs)]) (by kernel_rfl) (aI e1 (aI e1 (aI e2 (aI e3 (aI e4 trivial)))))
noncomputable abbrev eP : FE := ⟨284, sP, [S "script"], 1, 0, []⟩
noncomputable def uW (r : Nat → Nat) : D := .lst ((bu (gM r) (aN r 4).1).map aA)
noncomputable def q8 (r : Nat → Nat) : D := .lst ((aN r 4).2.1.map ad)
noncomputable def wz (r : Nat → Nat) : D := .lst ([bf r 0, bf r 1, bf r 2, bf r 3, bf r 4].map .str)
theorem qe (k : Nat) (sc dr pg wi : List D) (jo : Nat) (r : Nat → Nat) : (cX (O (k + 1)) (am sP) 97 uN (pR sc dr jo) (bD pg wi ((gY r 4).map bK))).run = some (wz r, bD pg wi ((gY r 4).map bK)) := by
 have hn : (gY r 4).map bK = ([bf r 0, bf r 1, bf r 2, bf r 3, bf r 4]).map fun s => D.lst [.str s] := rfl
 rw [hn]
 have := aM (o := O (k + 1)) (f := am sP) (n := 97) (e := uN) (lk := some 2) (ρ := pR sc dr jo) (σ := bD pg wi (([bf r 0, bf r 1, bf r 2, bf r 3, bf r 4]).map fun s => D.lst [.str s])) (σ₁ := [.lst pg, .lst wi, .lock (([bf r 0, bf r 1, bf r 2, bf r 3, bf r 4]).map fun s => D.lst [.str s])]) (σ₂ := bD pg wi (([bf r 0, bf r 1, bf r 2, bf r 3, bf r 4]).map fun s => D.lst [.str s])) (fun s => D.lst [.str s]) (fun s => some (.str s)) [bf r 0, bf r 1, bf r 2, bf r 3, bf r 4] (by kernel_rfl) (ac (p := []) (by kernel_rfl) trivial) (show 5 ≤ cC by decide) (fun s _ => ac (p := []) (by kernel_rfl) trivial) rfl
 rw [this, List.filterMap_eq_map']
 rfl
theorem xO (r : mS) : iv (aA r) = true := rfl
theorem zD (k : Nat) (l : List Int) (hl : l.length ≤ 63) (σ : aa) : (O (k + 2)).fn (S "_law_page") [.lst (l.map .int)] σ = some (.tup [uW (af l), q8 (af l), nI (aN (af l) 4).2.2, wz (af l)], σ) := by
 rw [dw (n := k + 1) (e := eP) (by kernel_rfl)]
 have e0 := qw k l hl
 have hpf : dO (l.map D.int) = true := bj (fun _ => rfl) _
 have hp2 : iv (.tup [uW (af l), q8 (af l), nI (aN (af l) 4).2.2, wz (af l)]) = true := by
  simp only [eU, eO, fC, eN, eT, eQ, lN, lM, uW, q8, wz, bj (f := aA) xO, bj (f := ad) fun _ => rfl, bj (f := D.str) fun _ => rfl, Bool.and_self]
 generalize af l = r at *
 generalize l.map D.int = sc at *
 have f1 : (ba (ex (O (k + 1)) (am sP) 2000 100) ((av sP).take 4) [(S "script", .lst sc)] []).run = some (.next, pR sc (lq r) (aN r 0).2.2, tL r 0) :=
  ac (p := [.s (.lst (lq r), [])]) (by kernel_rfl) (aI e0 trivial)
 have f2 : (bJ (O (k + 1)) (am sP) (aD (O (k + 1)) 99 (am sP)).1 (ua b1) (pR sc (lq r) (aN r 0).2.2) (tL r 0)).run = some (none, [nI 1, nI 2, nI 3, nI 4], tL r 0) := ac (p := []) (by kernel_rfl) trivial
 have f3 : (cV (am sP) (ex (O (k + 1)) (am sP) 2000 99) (cx b1) (bN b1) [nI 1, nI 2, nI 3, nI 4] (pR sc (lq r) (aN r 0).2.2) (tL r 0)).run = some (.next, pR sc (lq r) (aN r 4).2.2, tL r 4) := by
  rw [au (ez k sc r 0 (by decide))]
  simp only
  rw [au (ez k sc r 1 (by decide))]
  simp only
  rw [au (ez k sc r 2 (by decide))]
  simp only
  rw [au (ez k sc r 3 (by decide))]
  rfl
 have f4 : kind b1 = 1 := by kernel_rfl
 have f5 : (ba (ex (O (k + 1)) (am sP) 2000 100) b1.tail (pR sc (lq r) (aN r 4).2.2) (tL r 4)).run = some (.ret (.tup [uW r, q8 r, nI (aN r 4).2.2, wz r]), pR sc (lq r) (aN r 4).2.2, [.dead, .dead, .lst ((gY r 4).map bK)]) := by
  have h := qe k sc (lq r) ((bu (gM r) (aN r 4).1).map aA) ((aN r 4).2.1.map ad) (aN r 4).2.2 r
  delta tL uW q8
  generalize wz r = nd at *
  generalize (gY r 4).map bK = ns at *
  generalize (bu (gM r) (aN r 4).1).map aA = pg at *
  generalize (aN r 4).2.1.map ad = wi at *
  generalize (aN r 4).2.2 = jo at *
  exact ac (p := [.s (nd, bD pg wi ns)]) (by kernel_rfl) (aI h trivial)
 have f6 : (ba (ex (O (k + 1)) (am sP) 2000 100) (av sP) [(S "script", .lst sc)] []).run = some (.ret (.tup [uW r, q8 r, nI (aN r 4).2.2, wz r]), pR sc (lq r) (aN r 4).2.2, [.dead, .dead, .lst ((gY r 4).map bK)]) := aw 4 f1 (bA f4 f2 f3 rfl f5)
 exact aK (q := (.ret (.tup [uW r, q8 r, nI (aN r 4).2.2, wz r]), pR sc (lq r) (aN r 4).2.2, [.dead, .dead, .lst ((gY r 4).map bK)])) rfl (by simp only [lN, lM, eU, eO, fC, eN, eT, eQ, hpf, Bool.and_self]) f6 rfl hp2
end
section
theorem Fa (l : List (List Nat)) : fE (rP 3) (l.map D.str) = some (l.map fun s => .str ⟨s.toArray⟩) := by
 induction l with
 | nil => rfl
 | cons t l ih =>
  rw [List.map_cons]
  unfold fE
  rw [ih]
  rfl
theorem mw : ∀ l : List (List Nat), PyData.eqvAll (l.map fun s => .str ⟨s.toArray⟩) (l.map fun s => .str ⟨s.toArray⟩) = true
 | [] => rfl
 | s :: l => by rw [List.map_cons, PyData.eqvAll, mw l]; simp [PyData.eqv]
theorem my {σ : aa} (l : List (List Nat)) : uc σ (.lst (l.map .str)) (.lst (l.map .str)) = some true := by
 have h : rP 4 (.lst (l.map .str)) = some (.list (l.map fun s => .str ⟨s.toArray⟩)) := by
  show (none : Option PyData).or ((none : Option PyData).or ((fE (rP 3) (l.map .str)).map PyData.list)) = _
  rw [Fa]; rfl
 have h2 : PyData.eqv (.list (l.map fun s => .str ⟨s.toArray⟩)) (.list (l.map fun s => .str ⟨s.toArray⟩)) = true := by rw [PyData.eqv, mw]
 show Mine.eqL (l.map .str) (l.map .str) = _
 delta Mine.eqL DM
 rw [h]
 simp only [Option.bind_some, Option.map_some, h2, bne_self_eq_false, Bool.false_eq_true, if_false]
theorem va {o : aO} {σ : aa} (l : List (List Nat)) : cmp .NotEq o σ (.lst (l.map .str)) (.lst (l.map .str)) = some false := by
 show (uc σ _ _).map (true != ·) = _
 rw [my]; rfl
theorem vO {o : aO} {σ : aa} (l : List (List Nat)) : cmp .Eq o σ (.lst (l.map .str)) (.lst (l.map .str)) = some true := by
 show (uc σ _ _).map (false != ·) = _
 rw [my]; rfl
theorem u9 {o : aO} {σ : aa} (a b : Nat) : cmp .NotEq o σ (.tup [nI a, nI b]) (.tup [nI a, nI b]) = some false := by
 have h2 : PyData.eqv (.tuple [.int a, .int b]) (.tuple [.int a, .int b]) = true := SeqAt.eqv_refl _ rfl
 show (some (PyData.eqv (.tuple [.int a, .int b]) (.tuple [.int a, .int b]))).map (true != ·) = _
 rw [h2]; rfl
end
section
noncomputable abbrev sQ : Stmt := bG 74
noncomputable abbrev hh (i : Nat) : List Stmt := ((av sQ).drop i).take 1
noncomputable abbrev uA : Expr := oG (fH (hh 3))
noncomputable abbrev uK : Expr := rZ (cx (hh 9)) [1, 1]
noncomputable abbrev uS : Expr := rZ (cx (hh 10)) [0, 0]
noncomputable abbrev uG : Expr := rZ (oG (fH (hh 11))) [0]
noncomputable abbrev uT : Expr := rZ (oG (fH (hh 11))) [1]
noncomputable def Ei (nm : Nat → List Nat) : List (List Nat) := [nm 0, nm 1, nm 2, nm 3, nm 4]
noncomputable def zR (sc pg wi : List D) (jo : Nat) (nm : Nat → List Nat) (tx : List Nat) : aj := [(S "script", .lst sc), (S "page", .lst pg), (S "wires", .lst wi), (S "joints", nI jo), (S "names", .lst ((Ei nm).map .str)), (S "text", .str tx)]
noncomputable def zU (sc pg wi : List D) (jo : Nat) (nm : Nat → List Nat) (tx br : List Nat) : aj := zR sc pg wi jo nm tx ++ [(S "bare", .str br)]
noncomputable def AY (sc pg wi : List D) (jo : Nat) (nm : Nat → List Nat) (tx br : List Nat) : aj := zU sc pg wi jo nm tx br ++ [(S "asked", .lst [.bool true, .bool false, .bool false])]
noncomputable def Ew (sc pg wi : List D) (jo : Nat) (nm : Nat → List Nat) (tx br : List Nat) (nt : D) : aj := AY sc pg wi jo nm tx br ++ [(S "nets", .lst [nt])]
noncomputable def AX (sc pg wi : List D) (jo : Nat) (nm : Nat → List Nat) (tx br : List Nat) (nt : D) (t p : Nat) (us : List D) : aj := Ew sc pg wi jo nm tx br nt ++ [(S "trees", nI t), (S "partings", nI p), (S "used", .lst us)]
noncomputable def lr (sc pg wi : List D) (jo : Nat) (nm : Nat → List Nat) (tx br : List Nat) (nt : D) (t p : Nat) (us : List D) : aj := AX sc pg wi jo nm tx br nt t p us ++ [(S "book", bk)]
section
variable (sc pg wi : List D) (jo : Nat) (nm : Nat → List Nat) (tx br : List Nat)
theorem uf (hl : br.length ≤ 890) (ht : tx.length ≤ 890) (h1 : cb tx = true) (h2 : cb (br ++ [40]) = false) (h3 : cb (41 :: (br ++ [40])) = false) :
  (cX (O 20) (am sQ) 98 uA (zU sc pg wi jo nm tx br) []).run = some (.lst [.bool true, .bool false, .bool false], []) := by
 have e1 := ln (σ := []) (x := br) (y := [40]) (by simp only [List.length_cons, List.length_nil]; lia)
 have e2 := ln (σ := []) (x := [41]) (y := br) (by simp only [List.length_cons, List.length_nil]; lia)
 have e3 : aB .Add [] (.str (41 :: br)) (.str [40]) = some (.str (41 :: (br ++ [40]))) := ln (σ := []) (x := 41 :: br) (y := [40]) (by simp only [List.length_cons, List.length_nil]; lia)
 have hi : (bJ (O 20) (am sQ) (aD (O 20) 98 (am sQ)).1 (AQ uA) (zU sc pg wi jo nm tx br) []).run = some (none, [tx, br ++ [40], 41 :: (br ++ [40])].map .str, []) :=
  ac (p := [.d (.str (br ++ [40])), .d (.str (41 :: br)), .d (.str (41 :: (br ++ [40])))]) (by kernel_rfl) (aI e1 (aI e2 (aI e3 trivial)))
 have := aM (o := O 20) (f := am sQ) (n := 98) (e := uA) (lk := none) (ρ := zU sc pg wi jo nm tx br) (σ := []) (σ₁ := []) (σ₂ := []) D.str (fun s => some (.bool (cb s))) [tx, br ++ [40], 41 :: (br ++ [40])] (by kernel_rfl) hi (show 3 ≤ cC by decide) (fun s hs => by
  have hl : s.length ≤ 900 := by
   simp only [List.mem_cons, List.not_mem_nil, or_false] at hs
   clear h1 hi; rcases hs with rfl | rfl | rfl
   ·lia
   ·rw [List.length_append]; simp only [List.length_cons, List.length_nil]; lia
   ·rw [List.length_cons, List.length_append]; simp only [List.length_cons, List.length_nil]; lia
  have e : (O 20).fn (S "_check_parenthesis") [.str s] [] = some (.bool (cb s), []) := vY 17 s [] hl
  generalize cb s = c at *
  exact ac (p := [.skip 0, .s (.bool c, [])]) (by kernel_rfl) (aI e trivial)) rfl
 rw [this]
 simp only [List.filterMap_cons, List.filterMap_nil, h1, h2, h3]
theorem fy (wd : Nat → List Nat) (h : Nat → D) : ∀ t : Tr, ((bu wd t).filterMap fun x => if x.2.1 == -1 then none else some (h x.2.1.toNat)) = t.wires.map h
 | .leaf l w => by
  have e : ((w : Int) == -1) = false := by rw [beq_eq_false_iff_ne]; lia
  simp only [bu, List.filterMap_cons, List.filterMap_nil, e, Tr.wires, List.map_cons, List.map_nil, Bool.false_eq_true, if_false, Int.toNat_natCast]
 | .node l sg a b => by
  simp only [bu, List.filterMap_cons, beq_self_eq_true, if_true, List.filterMap_append, fy wd h a, fy wd h b, Tr.wires, List.map_append]
theorem wZ (nt : D) (tr p : Nat) (us : List D) (wd : Nat → List Nat) (t : Tr) (ht : ∀ i ∈ t.wires, i ≤ 4) {N : Nat} (hg : gLd N t) (hz : t.size ≤ 1000) (h : List Hd) :
  (cX (O 20) (am sQ) 96 uK (lr sc ((bu wd t).map aA) wi jo nm tx br nt tr p us) (hS h)).run = some (.lst (t.wires.map fun i => .str (nm i)), hS h) := by
 have := aM (o := O 20) (f := am sQ) (n := 96) (e := uK) (lk := none) (ρ := lr sc ((bu wd t).map aA) wi jo nm tx br nt tr p us) (σ := hS h) (σ₁ := hS h) (σ₂ := hS h) aA (fun x => if x.2.1 == -1 then none else some (.str (nm x.2.1.toNat))) (bu wd t) (by kernel_rfl) (ac (p := []) (by kernel_rfl) trivial) (by rw [du]; exact Nat.le_trans hz (by decide)) (fun x hx => by
  obtain ⟨l, i, w⟩ := x
  rcases (fV hg _ hx).2 with h1 | ⟨i', hi, h1⟩
  ·simp only at h1
   clear hx; subst h1
   exact ac (p := []) (by kernel_rfl) trivial
  ·simp only at h1
   subst h1
   have hi := ht i' hi
   have e : ((i' : Int) == -1) = false := by rw [beq_eq_false_iff_ne]; lia
   simp only [e, Bool.false_eq_true, if_false, Int.toNat_natCast]
   have e1 : al (O 20) (hS h) (.lst ((Ei nm).map .str)) (nI i') = some (.str (nm i')) := by
    rcases i' with _ | _ | _ | _ | _ | i'
    ·rfl
    ·rfl
    ·rfl
    ·rfl
    ·rfl
    ·lia
   exact ac (p := [.skip 3, .d (.str (nm i'))]) (by kernel_rfl) (aI e1 trivial)) rfl
 rw [this, fy wd fun i => .str (nm i)]
end
end
section
theorem zN (σ : aa) (d : D) : ak (S "int") σ [d] = wQ .int σ d := by kernel_rfl
theorem zL (σ : aa) (d : D) : ak (S "sum") σ [d] = wQ .sum σ d := by kernel_rfl
theorem vm : ∀ c : Nat, c < 41 → sI (ah c) = some (c : Int) := by decide +kernel
theorem zd {σ : aa} {c : Nat} (h : c ≤ 40) : ak (S "int") σ [.str (ah c)] = some (nI c) := by
 rw [zN]
 show (sI (ah c)).map D.int = _
 rw [vm c (Nat.lt_succ_of_le h)]; rfl
theorem sF (l : List Nat) : dH (l.map nI) = some (l.map fun (n : Nat) => (n : Int)) := by
 unfold dH
 induction l with
 | nil => rfl
 | cons x l ih =>
  rw [List.map_cons]
  unfold fE
  rw [ih]
  rfl
theorem rq (l : List Nat) : (l.map fun (n : Nat) => (n : Int)).sum = (l.sum : Nat) := by
 induction l with
 | nil => rfl
 | cons x l ih => rw [List.map_cons, List.sum_cons, List.sum_cons, ih, Int.natCast_add]
theorem xr {σ : aa} (l : List Nat) : ak (S "sum") σ [.lst (l.map nI)] = some (nI l.sum) := by
 rw [zL]
 show (dH (l.map nI)).map (fun ns => D.int ns.sum) = _
 rw [sF, Option.map_some, rq]
theorem ro {o : aO} {σ : aa} {s : List Nat} (h : s.length ≤ 100) : aq o .swapcase σ (.str s) [] = some (.str (s.map cY), σ) := by
 unfold aq
 simp only [List.isEmpty_nil, fS, Option.bind_some]
 rw [decide_eq_true (Nat.le_trans h (by decide))]
 rfl
section
variable (sc pg wi : List D) (jo : Nat) (nm : Nat → List Nat) (tx br : List Nat) (nt : D) (tr p : Nat) (us : List Nat) (b : Bk)
theorem AU (hb : ∀ q ∈ b, q.2 ≤ 40) (hl : b.length ≤ 100) :
  (cX (O 20) (am sQ) 96 uS (lr sc pg wi jo nm tx br nt tr p (us.map nI)) (hS (hB nm b))).run = some (.lst ((b.map fun q => q.2 * q.2).map nI), hS (hB nm b)) := by
 have hv : (O 20).meth 275 (S "values") [bk] [] (hS (hB nm b)) = some (.lst ((hB nm b).map fun q => .str q.2), hS (hB nm b)) := tm 18 (hB nm b) (by unfold hB; rw [List.length_map]; lia)
 have hm : ((hB nm b).map fun q => D.str q.2) = b.map fun q => .str (ah q.2) := by unfold hB; rw [List.map_map]; rfl
 rw [hm] at hv
 have hi : (bJ (O 20) (am sQ) (aD (O 20) 96 (am sQ)).1 (AQ uS) (lr sc pg wi jo nm tx br nt tr p (us.map nI)) (hS (hB nm b))).run = some (none, b.map fun q => .str (ah q.2), hS (hB nm b)) := by
  generalize (b.map fun q => D.str (ah q.2)) = vs at *
  generalize hB nm b = h at *
  exact ac (p := [.s (.lst vs, hS h)]) (by kernel_rfl) (aI hv trivial)
 have := aM (o := O 20) (f := am sQ) (n := 96) (e := uS) (lk := none) (ρ := lr sc pg wi jo nm tx br nt tr p (us.map nI)) (σ := hS (hB nm b)) (σ₁ := hS (hB nm b)) (σ₂ := hS (hB nm b)) (fun q : Nat × Nat => D.str (ah q.2)) (fun q => some (nI (q.2 * q.2))) b (by kernel_rfl) hi (Nat.le_trans hl (by decide)) (fun q hq => by
  have h1 := hb q hq
  clear hq; obtain ⟨i, c⟩ := q
  simp only at h1 ⊢
  have e1 := zd (σ := hS (hB nm b)) h1
  have e2 := cm (σ := hS (hB nm b)) (a := c) (b := c) (by lia) (by lia)
  generalize hS (hB nm b) = σ at *
  generalize c * c = z at *
  generalize ah c = s at *
  exact ac (p := [.skip 0, .d (nI c), .d (nI c), .d (nI z)]) (by kernel_rfl) (aI e1 (aI e1 (aI e2 trivial)))) rfl
 rw [this, List.filterMap_eq_map', List.map_map]
 rfl
theorem jW (nm : Nat → List Nat) (hn : qM nm) (i : Nat) (hi : i ≤ 4) : ∀ (b : Bk), (∀ q ∈ b, q.1 ≤ 4) → ∀ c, b.lookup i = some c → (hB nm b).find? (ub ((nm i).map bH)) = some (nm i, ah c)
 | [], _, c, h => aW h
 | q :: b, hb, c, h => by
  obtain ⟨j, d⟩ := q
  rw [List.lookup_cons] at h
  show ((nm j, ah d) :: hB nm b).find? (ub ((nm i).map bH)) = _
  rw [List.find?_cons]
  cases hij : i == j with
  | true =>
   rw [hij] at h
   have e := eq_of_beq hij
   clear hb hij; subst e
   cases h
   have hk : ub ((nm i).map bH) (nm i, ah c) = true := by show ((nm i).map bH == (nm i).map bH) = true; exact beq_self_eq_true _
   rw [hk]
  | false =>
   rw [hij] at h
   have : ub ((nm i).map bH) (nm j, ah d) = false := by
    show ((nm j).map bH == (nm i).map bH) = false
    rw [beq_eq_false_iff_ne]
    intro e
    have := hn.inj j i (hb (j, d) (List.mem_cons_self ..)) hi e
    rw [this] at hij
    simp at hij
   rw [this]
   exact jW nm hn i hi b (fun q hq => hb q (List.mem_cons_of_mem _ hq)) c h
theorem AW (hn : qM nm) (hsw : ∀ i, i ≤ 4 → ((nm i).map cY).map bH = (nm i).map bH) (hb : ∀ q ∈ b, q.1 ≤ 4) (hu : ∀ i, i ≤ 4 → b.lookup i = some (us.getD i 0)) :
  (cX (O 20) (am sQ) 97 uG (lr sc pg wi jo nm tx br nt tr p (us.map nI)) (hS (hB nm b))).run = some (.lst ([ah (us.getD 0 0), ah (us.getD 1 0), ah (us.getD 2 0), ah (us.getD 3 0), ah (us.getD 4 0)].map .str), hS (hB nm b)) := by
 have hi : (bJ (O 20) (am sQ) (aD (O 20) 97 (am sQ)).1 (AQ uG) (lr sc pg wi jo nm tx br nt tr p (us.map nI)) (hS (hB nm b))).run = some (none, [0, 1, 2, 3, 4].map fun i => D.str (nm i), hS (hB nm b)) := by
  generalize hS (hB nm b) = σ at *
  exact ac (p := []) (by kernel_rfl) trivial
 have := aM (o := O 20) (f := am sQ) (n := 97) (e := uG) (lk := none) (ρ := lr sc pg wi jo nm tx br nt tr p (us.map nI)) (σ := hS (hB nm b)) (σ₁ := hS (hB nm b)) (σ₂ := hS (hB nm b)) (fun i : Nat => D.str (nm i)) (fun i => some (.str (ah (us.getD i 0)))) [0, 1, 2, 3, 4] (by kernel_rfl) hi (by decide) (fun i hi => by
  have hi4 : i ≤ 4 := by
   simp only [List.mem_cons, List.not_mem_nil, or_false] at hi
   lia
  have e1 := ro (o := O 20) (σ := hS (hB nm b)) (hn.len i hi4)
  have e2 : (O 20).meth 275 (S "get") [bk, .str ((nm i).map cY)] [] (hS (hB nm b)) = some (wM ((hB nm b).find? (ub (((nm i).map cY).map bH))), hS (hB nm b)) := wP 16 ((nm i).map cY) (hB nm b) (by rw [List.length_map]; exact hn.len i hi4) (by rw [hsw i hi4]; exact hn.rel i hi4) (fun q hq => by
   obtain ⟨q', hq', rfl⟩ := List.mem_map.mp hq
   exact hn.len _ (hb q' hq'))
  rw [hsw i hi4, jW nm hn i hi4 b hb _ (hu i hi4)] at e2
  have e2 : (O 20).meth 275 (S "get") [bk, .str ((nm i).map cY)] [] (hS (hB nm b)) = some (.str (ah (us.getD i 0)), hS (hB nm b)) := e2
  generalize hS (hB nm b) = σ at *
  generalize ah (us.getD i 0) = v at *
  generalize (nm i).map cY = w at *
  exact ac (p := [.skip 0, .s (.str w, σ), .s (.str v, σ)]) (by kernel_rfl) (aI e1 (aI e2 trivial))) rfl
 rw [this]
 rfl
theorem AV (hu : us.length = 5) (hc : ∀ c ∈ us, c ≤ 1000) (σ : aa) :
  (cX (O 20) (am sQ) 97 uT (lr sc pg wi jo nm tx br nt tr p (us.map nI)) σ).run = some (.lst ((us.map fun (c : Nat) => ah (c : Int)).map .str), σ) := by
 have := aM (o := O 20) (f := am sQ) (n := 97) (e := uT) (lk := none) (ρ := lr sc pg wi jo nm tx br nt tr p (us.map nI)) (σ := σ) (σ₁ := σ) (σ₂ := σ) nI (fun c => some (.str (ah c))) us (by kernel_rfl) (ac (p := []) (by kernel_rfl) trivial) (by rw [hu]; decide) (fun c hc' => by
  have e := mY (σ := σ) (hc c hc')
  generalize ah (c : Int) = v at *
  exact ac (p := [.skip 0, .d (.str v)]) (by kernel_rfl) (aI e trivial)) rfl
 rw [this, List.filterMap_eq_map', List.map_map]
 rfl
end
end
section
noncomputable abbrev cH : Stmt := bG 73
noncomputable abbrev y1 : List Stmt := (av cH).drop 1
noncomputable abbrev yI : List Stmt := (bN y1).tail
noncomputable abbrev AZ : List Stmt := (bN yI).tail
noncomputable abbrev yF : List Stmt := (bN AZ).tail
noncomputable def tR (ws : List D) (jo : Int) (st : Nat × Nat × List Nat) : aj × aa := ([(S "wires", .lst ws), (S "joints", .int jo), (S "trees", nI st.1), (S "partings", nI st.2.1), (S "used", .ptr 1)], [.lst [nI 0], .lst (st.2.2.map nI)])
noncomputable def aR (s : Nat) : List Nat := (List.range 5).filter fun i => s / 2 ^ i % 2 == 1
noncomputable def cp (ws : List (Nat × Nat)) (m : List Nat) : List (Nat × Nat) := m.map fun i => ws.getD i (0, 0)
noncomputable def dU (ws : List (Nat × Nat)) (jo : Nat) (m : List Nat) (us : List Nat) (i : Nat) : List Nat := if (aQ (cp ws (m.filter (· != i))) jo).2 then us else us.set i (us.getD i 0 + 1)
noncomputable def cD (ws : List (Nat × Nat)) (jo : Nat) (st : Nat × Nat × List Nat) (s : Nat) : Nat × Nat × List Nat :=
 bif (aR s).length + 1 == jo || (aR s).length + 2 == jo then
  bif (aQ (cp ws (aR s)) jo).1 && (aR s).length + 1 == jo then (st.1 + 1, st.2.1, (aR s).foldl (dU ws jo (aR s)) st.2.2)
  else bif (aQ (cp ws (aR s)) jo).1 && !(aQ (cp ws (aR s)) jo).2 then (st.1, st.2.1 + 1, st.2.2) else st
 else st
noncomputable def ft (ws : List (Nat × Nat)) (jo : Nat) : Nat × Nat × List Nat := (List.range 32).foldl (cD ws jo) (0, 0, [0, 0, 0, 0, 0])
theorem rC {s i : Nat} (h : i ∈ aR s) : i < 5 := List.mem_range.mp (List.mem_filter.mp h).1
theorem pW (s : Nat) : (aR s).length ≤ 5 := Nat.le_trans (List.length_filter_le _ _) (Nat.le_of_eq List.length_range)
theorem xC : ∀ s : Nat, s < 32 → ∀ i : Nat, i < 5 → Builtin.bitAnd ((s : Int).fdiv (2 ^ i)) 1 = ((s / 2 ^ i % 2 : Nat) : Int) := by decide +kernel
noncomputable abbrev qX : Expr := oG (fH (bN y1))
theorem gv {α β : Type} (p : α → Bool) (f : α → β) (l : List α) : l.filterMap (fun x => if p x then some (f x) else none) = (l.filter p).map f := by
 induction l with
 | nil => rfl
 | cons x l ih =>
  rw [List.filterMap_cons, List.filter_cons]
  cases h : p x
  ·simpa using ih
  ·simpa using ih
noncomputable abbrev yx (s : Nat) : aj := [(S "s", nI s)]
noncomputable abbrev yy (s : Nat) (m : List Nat) : aj := [(S "s", nI s), (S "some", .lst (m.map nI))]
noncomputable abbrev yz (s : Nat) (m : List Nat) (p j : Bool) : aj := [(S "s", nI s), (S "some", .lst (m.map nI)), (S "plain", .bool p), (S "joined", .bool j)]
noncomputable abbrev yw (s : Nat) (m : List Nat) (p j : Bool) (i : Nat) : aj := [(S "s", nI s), (S "some", .lst (m.map nI)), (S "plain", .bool p), (S "joined", .bool j), (S "i", nI i)]
theorem xp (k : Nat) (ws : List D) (jo : Int) (st : Nat × Nat × List Nat) (s : Nat) (hs : s < 32) : (cX (O (k + 1)) (am cH) 97 qX ((tR ws jo st).1 ++ yx s) (tR ws jo st).2).run = some (.lst ((aR s).map nI), (tR ws jo st).2) := by
 have := aM (o := O (k + 1)) (f := am cH) (n := 97) (e := qX) (lk := none) (ρ := (tR ws jo st).1 ++ yx s) (σ₁ := (tR ws jo st).2) (σ := (tR ws jo st).2) (σ₂ := (tR ws jo st).2) nI (fun i => if (s / 2 ^ i % 2 == 1) then some (nI i) else none) (List.range 5) (by kernel_rfl) (ac (p := []) (by kernel_rfl) trivial) (by decide) (fun i hi => ?_) rfl
 ·rw [this, gv]; rfl
 ·have hi := List.mem_range.mp hi
  have hb : aB .RShift (tR ws jo st).2 (nI s) (nI i) = some (.int ((s : Int).fdiv (2 ^ i))) := by
   delta aB fh
   simp only [nI, pi, Option.bind_some]
   rw [show gd (decide (0 ≤ (i : Int))) = some () from by rw [decide_eq_true (by lia)]; rfl]
   rfl
  have hc := xC s hs i hi
  have hd : (Builtin.bitAnd ((s : Int).fdiv (2 ^ i)) 1 != 0) = (s / 2 ^ i % 2 == 1) := by
   rw [hc]
   rcases Nat.mod_two_eq_zero_or_one (s / 2 ^ i) with h | h <;> rw [h] <;> rfl
  cases he : (s / 2 ^ i % 2 == 1) <;> rw [he] at hd
  ·exact ac (p := [.d (.int ((s : Int).fdiv (2 ^ i))), .skip 1, .b false]) (by kernel_rfl) (aI hb (aI hd trivial))
  ·exact ac (p := [.d (.int ((s : Int).fdiv (2 ^ i))), .skip 1, .b true]) (by kernel_rfl) (aI hb (aI hd trivial))
theorem wL {o : aO} {σ : aa} {ws : List (Nat × Nat)} {i : Nat} (h : i < ws.length) (h2 : ws.length ≤ 100) : al o σ (.lst (ws.map ad)) (nI i) = some (ad (ws.getD i (0, 0))) :=
 bZ (l := ws.map ad) rfl (by rw [List.getElem?_map, List.getD_eq_getElem?_getD, List.getElem?_eq_getElem h]; rfl) (by lia)
noncomputable abbrev w2 : Expr := rZ (oG (fH (bN yI))) [0]
noncomputable abbrev n7 : Expr := rZ (cx (bN yF)) [0, 0, 0]
theorem Bj (k : Nat) (ws : List (Nat × Nat)) (jo : Int) (st : Nat × Nat × List Nat) (s : Nat) (m : List Nat) (hw : ws.length = 5) (hm : ∀ i ∈ m, i < 5) (hl : m.length ≤ 5) :
  (cX (O (k + 1)) (am cH) 95 w2 ((tR (ws.map ad) jo st).1 ++ yy s m) (tR (ws.map ad) jo st).2).run = some (.lst ((cp ws m).map ad), (tR (ws.map ad) jo st).2) := by
 have := aM (o := O (k + 1)) (f := am cH) (n := 95) (e := w2) (lk := none) (ρ := (tR (ws.map ad) jo st).1 ++ yy s m) (σ₁ := (tR (ws.map ad) jo st).2) (σ := (tR (ws.map ad) jo st).2) (σ₂ := (tR (ws.map ad) jo st).2) nI (fun i => some (ad (ws.getD i (0, 0)))) m (by kernel_rfl) (ac (p := []) (by kernel_rfl) trivial) (Nat.le_trans hl (by decide)) (fun i hi => ?_) rfl
 ·rw [this, List.filterMap_eq_map']; delta cp; rw [List.map_map]; rfl
 ·exact ac (p := [.skip 0, .d (ad (ws.getD i (0, 0)))]) (g := al (O (k + 1)) (tR (ws.map ad) jo st).2 (.lst (ws.map ad)) (nI i) = some (ad (ws.getD i (0, 0))) ∧ True) (by kernel_rfl) ⟨wL (by rw [hw]; exact hm i hi) (by lia), trivial⟩
theorem xo (k : Nat) (ws : List (Nat × Nat)) (jo : Int) (st : Nat × Nat × List Nat) (s : Nat) (m : List Nat) (p j : Bool) (i : Nat) (hw : ws.length = 5) (hm : ∀ i ∈ m, i < 5) (hl : m.length ≤ 5) :
  (cX (O (k + 1)) (am cH) 90 n7 ((tR (ws.map ad) jo st).1 ++ yw s m p j i) (tR (ws.map ad) jo st).2).run = some (.lst ((cp ws (m.filter (· != i))).map ad), (tR (ws.map ad) jo st).2) := by
 have := aM (o := O (k + 1)) (f := am cH) (n := 90) (e := n7) (lk := none) (ρ := (tR (ws.map ad) jo st).1 ++ yw s m p j i) (σ₁ := (tR (ws.map ad) jo st).2) (σ := (tR (ws.map ad) jo st).2) (σ₂ := (tR (ws.map ad) jo st).2) nI (fun x => if (x != i) then some (ad (ws.getD x (0, 0))) else none) m (by kernel_rfl) (ac (p := []) (by kernel_rfl) trivial) (Nat.le_trans hl (by decide)) (fun x hx => ?_) rfl
 ·rw [this, gv]; delta cp; rw [List.map_map]; rfl
 ·have hc : (true != ((x : Int) == (i : Int))) = (x != i) := by rw [bQ]; show (true != (x == i)) = !(x == i); cases (x == i) <;> rfl
  cases he : (x != i) <;> rw [he] at hc
  ·exact ac (p := [.skip 0, .b false]) (by kernel_rfl) (aI hc trivial)
  ·exact ac (p := [.skip 0, .b true, .d (ad (ws.getD x (0, 0)))]) (g := (true != ((x : Int) == (i : Int))) = true ∧ al (O (k + 1)) (tR (ws.map ad) jo st).2 (.lst (ws.map ad)) (nI x) = some (ad (ws.getD x (0, 0))) ∧ True) (by kernel_rfl) ⟨hc, wL (by rw [hw]; exact hm x hx) (by lia), trivial⟩
theorem oy {ws : List (Nat × Nat)} {jo : Nat} (h : ∀ w ∈ ws, w.1 < jo ∧ w.2 < jo) (hj : 2 ≤ jo) (m : List Nat) : ∀ w ∈ cp ws m, w.1 < jo ∧ w.2 < jo := fun w hw => by
 obtain ⟨i, _, rfl⟩ := List.mem_map.mp hw
 rw [List.getD_eq_getElem?_getD]
 cases e : ws[i]? with
 | none => exact ⟨by show 0 < jo; lia, by show 0 < jo; lia⟩
 | some w => exact h w (List.mem_of_getElem? e)
theorem ur (k : Nat) (ws : List (Nat × Nat)) (jo : Nat) (t p : Nat) (s : Nat) (m : List Nat) (pl j : Bool) (us : List Nat) (i : Nat) (hw : ws.length = 5) (hws : ∀ w ∈ ws, w.1 < jo ∧ w.2 < jo) (hj : 2 ≤ jo) (hj2 : jo ≤ 100) (hm : ∀ i ∈ m, i < 5) (hl : m.length ≤ 5) (h : us.length = 5 ∧ i < 5) :
  (turn (am cH) (ex (O (k + 2)) (am cH) 2000 96) (cx yF) (bN yF) (nI i) ((tR (ws.map ad) jo (t, p, us)).1 ++ yz s m pl j) (tR (ws.map ad) jo (t, p, us)).2).run = some (.next, (tR (ws.map ad) jo (t, p, dU ws jo m us i)).1 ++ yz s m pl j, (tR (ws.map ad) jo (t, p, dU ws jo m us i)).2) := by
 have hc := xo (k + 1) ws jo (t, p, us) s m pl j i hw hm hl
 have hf := mF k (cp ws (m.filter (· != i))) jo (tR (ws.map ad) jo (t, p, us)).2 (oy hws hj _) hj hj2
 delta dU
 generalize cp ws (m.filter (· != i)) = sub at *
 generalize (aQ sub jo).1 = b1 at *
 obtain ⟨h5, hi⟩ := h
 have hx : (us.map nI)[((i : Nat) : Int).toNat]? = some (nI (us.getD i 0)) := by
  rw [Int.toNat_natCast, List.getElem?_map, List.getD_eq_getElem?_getD, List.getElem?_eq_getElem (by lia)]; rfl
 cases hb : (aQ sub jo).2 <;> rw [hb] at hf
 ·rw [if_neg Bool.false_ne_true]
  have hs : (us.set i (us.getD i 0 + 1)).map nI = (us.map nI).set ((i : Nat) : Int).toNat (nI (us.getD i 0 + 1)) := by rw [Int.toNat_natCast, List.map_set]
  delta tR at *
  simp only at *
  rw [hs]
  generalize us.getD i 0 = x at *
  exact ac (p := [.s (.lst (sub.map ad), [.lst [nI 0], .lst (us.map nI)]), .s (.tup [.bool b1, .bool false], [.lst [nI 0], .lst (us.map nI)]), .skip 2, .b true, .d (nI x), .skip 0, .b true])
   (g := (cX (O (k + 2)) (am cH) 90 n7 (([(S "wires", .lst (ws.map ad)), (S "joints", .int (jo : Int)), (S "trees", nI t), (S "partings", nI p), (S "used", .ptr 1)] : aj) ++ yw s m pl j i) [.lst [nI 0], .lst (us.map nI)]).run = some (.lst (sub.map ad), [.lst [nI 0], .lst (us.map nI)]) ∧ (O (k + 2)).fn (S "_law_joined") [.lst (sub.map ad), nI jo] [.lst [nI 0], .lst (us.map nI)] = some (.tup [.bool b1, .bool false], [.lst [nI 0], .lst (us.map nI)]) ∧
    decide (0 ≤ ((i : Nat) : Int) ∧ ((i : Nat) : Int) < (us.map nI).length ∧ ((i : Nat) : Int) ≤ 16000000) = true ∧ (us.map nI)[((i : Nat) : Int).toNat]? = some (nI x) ∧ decide (((i : Nat) : Int) < (us.map nI).length) = true ∧ True) (by kernel_rfl)
   ⟨hc, hf, by rw [decide_eq_true_iff, List.length_map]; lia, hx, by rw [decide_eq_true_iff, List.length_map]; lia, trivial⟩
 ·rw [if_pos rfl]
  exact ac (p := [.s (.lst (sub.map ad), (tR (ws.map ad) jo (t, p, us)).2), .s (.tup [.bool b1, .bool true], (tR (ws.map ad) jo (t, p, us)).2)])
   (g := (cX (O (k + 2)) (am cH) 90 n7 ((tR (ws.map ad) jo (t, p, us)).1 ++ yw s m pl j i) (tR (ws.map ad) jo (t, p, us)).2).run = some (.lst (sub.map ad), (tR (ws.map ad) jo (t, p, us)).2) ∧ (O (k + 2)).fn (S "_law_joined") [.lst (sub.map ad), nI jo] (tR (ws.map ad) jo (t, p, us)).2 = some (.tup [.bool b1, .bool true], (tR (ws.map ad) jo (t, p, us)).2) ∧ True) (by kernel_rfl)
   ⟨hc, hf, trivial⟩
theorem usedS_len {ws : List (Nat × Nat)} {jo : Nat} {m us : List Nat} {i : Nat} : (dU ws jo m us i).length = us.length := by
 delta dU
 split
 ·rfl
 ·rw [List.length_set]
theorem v4 {σ : aa} {m : List Nat} (h : m.length ≤ 100) : ak (S "len") σ [.lst (m.map nI)] = some (nI m.length) := by
 show (((gd (decide ((m.map nI).length ≤ cC))).map fun _ => D.int (m.map nI).length)) = _
 rw [List.length_map, decide_eq_true (Nat.le_trans h (by decide))]
 rfl
theorem xn (k : Nat) (ws : List (Nat × Nat)) (jo : Nat) (hw : ws.length = 5) (hws : ∀ w ∈ ws, w.1 < jo ∧ w.2 < jo) (hj : 2 ≤ jo) (hj2 : jo ≤ 100) (st : Nat × Nat × List Nat) (s : Nat) (h : st.2.2.length = 5 ∧ s < 32) :
  (turn (am cH) (ex (O (k + 2)) (am cH) 2000 99) (cx y1) (bN y1) (nI s) (tR (ws.map ad) jo st).1 (tR (ws.map ad) jo st).2).run = some (.next, tR (ws.map ad) jo (cD ws jo st s)) := by
 obtain ⟨h5, hs⟩ := h
 have hm := @rC s
 have hl := pW s
 have e1 := xp (k + 1) (ws.map ad) jo st s hs
 have e2 := Bj (k + 1) ws jo st s (aR s) hw (fun i hi => hm hi) hl
 have e3 := mF k (cp ws (aR s)) jo (tR (ws.map ad) jo st).2 (oy hws hj _) hj hj2
 have e4 := v4 (σ := (tR (ws.map ad) jo st).2) (m := aR s) (by lia)
 -- the names after the turn
 suffices hh : ∃ ρ₂, (ba (ex (O (k + 2)) (am cH) 2000 99) (bN y1) ((tR (ws.map ad) jo st).1 ++ yx s) (tR (ws.map ad) jo st).2).run = some (.next, (tR (ws.map ad) jo (cD ws jo st s)).1 ++ ρ₂, (tR (ws.map ad) jo (cD ws jo st s)).2) by
  obtain ⟨ρ₂, hh⟩ := hh
  exact fQ (ρ₁ := (tR (ws.map ad) jo st).1 ++ yx s) (by kernel_rfl) hh (by rfl)
 have first : (ba (ex (O (k + 2)) (am cH) 2000 99) ((bN y1).take 1) ((tR (ws.map ad) jo st).1 ++ yx s) (tR (ws.map ad) jo st).2).run = some (.next, (tR (ws.map ad) jo st).1 ++ yy s (aR s), (tR (ws.map ad) jo st).2) :=
  ac (p := [.s (.lst ((aR s).map nI), (tR (ws.map ad) jo st).2)]) (g := (cX (O (k + 2)) (am cH) 97 qX ((tR (ws.map ad) jo st).1 ++ yx s) (tR (ws.map ad) jo st).2).run = some (.lst ((aR s).map nI), (tR (ws.map ad) jo st).2) ∧ True) (by kernel_rfl) ⟨e1, trivial⟩
 have test : ((aD (O (k + 2)) 98 (am cH)).2 (cx yI) ((tR (ws.map ad) jo st).1 ++ yy s (aR s)) (tR (ws.map ad) jo st).2).run = some ((aR s).length + 1 == jo || (aR s).length + 2 == jo, (tR (ws.map ad) jo st).2) := by
  have := ac (t := (aD (O (k + 2)) 98 (am cH)).2 (cx yI) ((tR (ws.map ad) jo st).1 ++ yy s (aR s)) (tR (ws.map ad) jo st).2) (a := ((([(jo : Int) - 1, (jo : Int) - 2] : List Int).any fun x => x == ((aR s).length : Int)), (tR (ws.map ad) jo st).2)) (p := [.d (nI (aR s).length)]) (g := ak (S "len") (tR (ws.map ad) jo st).2 [.lst ((aR s).map nI)] = some (nI (aR s).length) ∧ True) (by kernel_rfl) ⟨e4, trivial⟩
  rw [this]
  congr 2
  rw [Bool.eq_iff_iff]
  simp only [List.any_cons, List.any_nil, Bool.or_false, Bool.or_eq_true, beq_iff_eq]
  lia
 generalize hm2 : aR s = m at *
 delta cD
 rw [hm2]
 generalize hc : (m.length + 1 == jo || m.length + 2 == jo) = c at *
 cases c with
 | false =>
  exact ⟨yy s m, aw 1 first (g8 (n := 98) (l := yI) (by kernel_rfl) test (ρ₂ := (tR (ws.map ad) jo st).1 ++ yy s m) (σ₂ := (tR (ws.map ad) jo st).2) (by rfl) (by rfl))⟩
 | true =>
  clear e1; obtain ⟨t, p, us⟩ := st
  have second : (ba (ex (O (k + 2)) (am cH) 2000 98) ((bN yI).take 1) ((tR (ws.map ad) jo (t, p, us)).1 ++ yy s m) (tR (ws.map ad) jo (t, p, us)).2).run = some (.next, (tR (ws.map ad) jo (t, p, us)).1 ++ yz s m (aQ (cp ws m) jo).1 (aQ (cp ws m) jo).2, (tR (ws.map ad) jo (t, p, us)).2) :=
   ac (p := [.s (.lst ((cp ws m).map ad), (tR (ws.map ad) jo (t, p, us)).2), .s (.tup [.bool (aQ (cp ws m) jo).1, .bool (aQ (cp ws m) jo).2], (tR (ws.map ad) jo (t, p, us)).2)])
    (g := (cX (O (k + 2)) (am cH) 95 w2 ((tR (ws.map ad) jo (t, p, us)).1 ++ yy s m) (tR (ws.map ad) jo (t, p, us)).2).run = some (.lst ((cp ws m).map ad), (tR (ws.map ad) jo (t, p, us)).2) ∧ (O (k + 2)).fn (S "_law_joined") [.lst ((cp ws m).map ad), nI jo] (tR (ws.map ad) jo (t, p, us)).2 = some (.tup [.bool (aQ (cp ws m) jo).1, .bool (aQ (cp ws m) jo).2], (tR (ws.map ad) jo (t, p, us)).2) ∧ True) (by kernel_rfl) ⟨e2, e3, trivial⟩
  generalize kQ : (aQ (cp ws m) jo).1 = pl at *
  generalize hj1 : (aQ (cp ws m) jo).2 = jn at *
  suffices hh : ∃ ρ₂, (ba (ex (O (k + 2)) (am cH) 2000 98) AZ ((tR (ws.map ad) jo (t, p, us)).1 ++ yz s m pl jn) (tR (ws.map ad) jo (t, p, us)).2).run = some (.next, (tR (ws.map ad) jo (bif pl && m.length + 1 == jo then (t + 1, p, m.foldl (dU ws jo m) us) else bif pl && !jn then (t, p + 1, us) else (t, p, us))).1 ++ ρ₂, (tR (ws.map ad) jo (bif pl && m.length + 1 == jo then (t + 1, p, m.foldl (dU ws jo m) us) else bif pl && !jn then (t, p + 1, us) else (t, p, us))).2) by
   obtain ⟨ρ₂, hh⟩ := hh
   exact ⟨ρ₂, aw 1 first (g8 (n := 98) (l := yI) (by kernel_rfl) test (aw 1 second hh) (by rfl))⟩
  have test2 : ((aD (O (k + 2)) 97 (am cH)).2 (cx AZ) ((tR (ws.map ad) jo (t, p, us)).1 ++ yz s m pl jn) (tR (ws.map ad) jo (t, p, us)).2).run = some (pl && m.length + 1 == jo, (tR (ws.map ad) jo (t, p, us)).2) := by
   cases pl with
   | false => exact ac (p := []) (g := True) (by kernel_rfl) trivial
   | true =>
    have hq : (false != ((m.length : Int) == (jo : Int) - 1)) = (m.length + 1 == jo) := by
     rw [bv, Bool.eq_iff_iff, beq_iff_eq, beq_iff_eq]; lia
    rw [Bool.true_and]
    cases hz : (m.length + 1 == jo) <;> rw [hz] at hq
    ·exact ac (p := [.skip 1, .d (nI m.length), .skip 0, .b false]) (g := ak (S "len") (tR (ws.map ad) jo (t, p, us)).2 [.lst (m.map nI)] = some (nI m.length) ∧ some (false != ((m.length : Int) == (jo : Int) - 1)) = some false ∧ True) (by kernel_rfl) ⟨e4, by rw [hq], trivial⟩
    ·exact ac (p := [.skip 1, .d (nI m.length), .skip 0, .b true]) (g := ak (S "len") (tR (ws.map ad) jo (t, p, us)).2 [.lst (m.map nI)] = some (nI m.length) ∧ some (false != ((m.length : Int) == (jo : Int) - 1)) = some true ∧ True) (by kernel_rfl) ⟨e4, by rw [hq], trivial⟩
  generalize hc2 : (pl && m.length + 1 == jo) = c2 at *
  cases c2 with
  | true =>
   have hok : fZ (dU ws jo m) (fun us i => us.length = 5 ∧ i < 5) us m := d6 (fun us => us.length = 5) (fun i => i < 5) (fun a x h1 h2 => ⟨⟨h1, h2⟩, usedS_len.trans h1⟩) h5 fun i hi => hm hi
   have loop := cr nI (fun us : List Nat => ((tR (ws.map ad) jo (t + 1, p, us)).1 ++ yz s m pl jn, (tR (ws.map ad) jo (t + 1, p, us)).2)) (dU ws jo m) _ (fun us i h => ur k ws jo (t + 1) p s m pl jn us i hw hws hj hj2 (fun i hi => hm hi) hl h) m us hok
   refine ⟨yz s m pl jn, g8 (n := 97) (l := AZ) (by kernel_rfl) test2 (aw 1 (ρ₁ := (tR (ws.map ad) jo (t + 1, p, us)).1 ++ yz s m pl jn) (σ₁ := (tR (ws.map ad) jo (t + 1, p, us)).2) (ac (p := []) (g := True) (by kernel_rfl) trivial) ?_) (by rfl)⟩
   exact bA (n := 96) (l := yF) (by kernel_rfl) (lk := none) (items := m.map nI) (σ₁ := (tR (ws.map ad) jo (t + 1, p, us)).2) (ac (p := []) (g := True) (by kernel_rfl) trivial) loop rfl (by rfl)
  | false =>
   refine ⟨yz s m pl jn, g8 (n := 97) (l := AZ) (by kernel_rfl) test2 ?_ (by rfl)⟩
   clear kQ e3 second hc2 test2; cases pl <;> cases jn <;> exact ac (p := []) (g := True) (by kernel_rfl) trivial
noncomputable abbrev HB : FE := ⟨325, cH, [S "wires", S "joints"], 2, 0, []⟩
theorem vX (k : Nat) (ws : List (Nat × Nat)) (jo : Nat) (σ : aa) (hw : ws.length = 5) (hws : ∀ w ∈ ws, w.1 < jo ∧ w.2 < jo) (hj : 2 ≤ jo) (hj2 : jo ≤ 100) :
  (O (k + 3)).fn (S "_law_tried") [.lst (ws.map ad), nI jo] σ = some (.tup [nI (ft ws jo).1, nI (ft ws jo).2.1, .lst ((ft ws jo).2.2.map nI)], σ) := by
 rw [dw (n := k + 2) (e := HB) (by kernel_rfl)]
 have hpf : dO [.lst (ws.map ad), nI jo] = true := by
  simp only [lN, lM, eU, eO, fC, eN, eT, eQ, bj (f := ad) fun x => rfl, Bool.and_true]
 have hok : fZ (cD ws jo) (fun st s => st.2.2.length = 5 ∧ s < 32) (0, 0, [0, 0, 0, 0, 0]) (List.range 32) := d6 (fun st => st.2.2.length = 5) (fun s => s < 32) (fun a x h1 h2 => ⟨⟨h1, h2⟩, by
  have hf : ∀ (l us : List Nat), (l.foldl (dU ws jo (aR x)) us).length = us.length := fun l => by
   induction l with
   | nil => exact fun _ => rfl
   | cons i l ih => exact fun us => (ih _).trans usedS_len
  delta cD
  cases ((aR x).length + 1 == jo || (aR x).length + 2 == jo) <;> cases ((aQ (cp ws (aR x)) jo).1 && (aR x).length + 1 == jo) <;> cases ((aQ (cp ws (aR x)) jo).1 && !(aQ (cp ws (aR x)) jo).2) <;> first | exact h1 | exact (hf _ _).trans h1⟩) rfl fun s hs => List.mem_range.mp hs
 have hfor := cr nI (tR (ws.map ad) jo) (cD ws jo) _ (xn k ws jo hw hws hj hj2) (List.range 32) (0, 0, [0, 0, 0, 0, 0]) hok
 delta ft
 generalize (List.range 32).foldl (cD ws jo) (0, 0, [0, 0, 0, 0, 0]) = st at hfor ⊢
 obtain ⟨t, p, us⟩ := st
 refine aK (q := (.ret (.tup [nI t, nI p, .lst (us.map nI)]), (tR (ws.map ad) jo (t, p, us)).1, [.lst [nI 0], .dead])) rfl hpf ?_ rfl (by simp only [eU, eO, fC, eN, eT, eQ, lN, lM, bj (f := nI) fun x => rfl, Bool.and_true])
 refine aw 1 (ρ₁ := (tR (ws.map ad) jo (0, 0, [0, 0, 0, 0, 0])).1) (σ₁ := (tR (ws.map ad) jo (0, 0, [0, 0, 0, 0, 0])).2) (ac (p := []) (g := True) (by kernel_rfl) trivial) ?_
 refine bA (l := y1) (by kernel_rfl) (lk := none) (items := (List.range 32).map nI) (σ₁ := (tR (ws.map ad) jo (0, 0, [0, 0, 0, 0, 0])).2) (ac (p := []) (g := True) (by kernel_rfl) trivial) hfor rfl ?_
 exact ac (p := []) (g := True) (by kernel_rfl) trivial
end
section
noncomputable def wY : Prop := ∀ l : List Int, l.length ≤ 63 → ∃ ρ' σ', (ba (ex (O 20) (am (bG 74)) 2000 100) (av (bG 74)) (aS [] ([S "script"].zip [.lst (l.map .int)])) []).run = some (.ret (.bool true), ρ', σ')
noncomputable abbrev pw : Program := PySem.Challenge.rw_sh0075_01.row.prog
theorem Ha : namesResolve pw = true := by kernel_rfl
theorem G9 : noRoadLSs { strict := !(importedModules pw.main.body).all cThrough.contains, foot := none, bare := (["vars", "dir", "locals"] : List Str).filter (readsOut pw pw.main.body) } pw.main.body = true := by kernel_rfl
theorem G8 : (namesMeet pw pw.main.body fun _ n => attrL n) = true := by kernel_rfl
theorem sa : looksOpen pw = true := by
  refine look_both (look_both (look_both (look_both (look_both ?_ ?_) Ha) ?_) G9) G8 <;> kernel_rfl
theorem sb : OpenRow.wellSaid PySem.Challenge.rw_sh0075_01.row = true := by
  unfold OpenRow.wellSaid OpenRow.partSaid
  refine look_both (look_both (look_both (look_both (look_both (look_both (look_both (look_both (look_both (look_both (look_both (look_both (look_both (look_both (look_both sa ?_) ?_) ?_) ?_) ?_) ?_) ?_) ?_) ?_) ?_) ?_) ?_) ?_) ?_) ?_ <;> kernel_rfl
theorem Bx : OpenLaw.wellSaid PySem.Challenge.rw_sh0075_01 = true := by
  unfold OpenLaw.wellSaid
  refine look_both (look_both (look_both (look_both (look_both (look_both (look_both (look_both (look_both (look_both (look_both (look_both (look_both (look_both (look_both (look_both (look_both (look_both sb ?_) ?_) ?_) ?_) ?_) ?_) ?_) ?_) ?_) ?_) ?_) ?_) ?_) ?_) ?_) ?_) ?_) ?_ <;> kernel_rfl
theorem yU (plain : wY) : PySem.Challenge.rw_sh0075_01.Holds := holds_law Bx fun said => Dy (uj plain) said
end
section
theorem Dl {us : List Nat} (h : us.length = 5) : (us.map fun (c : Nat) => ah (c : Int)) = [ah (us.getD 0 0), ah (us.getD 1 0), ah (us.getD 2 0), ah (us.getD 3 0), ah (us.getD 4 0)] := by
 rw [sj _ 0 us, h]; rfl
structure D9 (r : Nat → Nat) (tx br : List Nat) (cs : List Nat) (ms : List Nat) (n : Net) (us : List Nat) (b : Bk) : Prop where
 nm : qM (bf r)
 sw : ∀ i, i ≤ 4 → ((bf r i).map cY).map bH = (bf r i).map bH
 good : good (gM r) (aN r 4).1
 txt : Mine.tx (gM r) false (aN r 4).1 = tx
 tlen : tx.length ≤ 890
 blen : br.length ≤ 890
 bare : bR tx = br
 chk1 : cb tx = true
 chk2 : cb (br ++ [40]) = false
 chk3 : cb (41 :: (br ++ [40])) = false
 cut : (s8 br).map cA ++ [.tup [.int 0, .str []]] = cs.map (dg (bf r))
 clen : cs.length ≤ 400
 net : i6 cs ([], []) = some (ms, [n])
 tried : ft (aN r 4).2.1 (aN r 4).2.2 = (n.wh, n.mx, us)
 send : fg n n.wh [] = some b
 dp : n.dp ≤ 14
 keys : b.map Prod.fst = (aN r 4).1.wires
 b4 : ∀ q ∈ b, q.1 ≤ 4 ∧ q.2 ≤ 40
 blen2 : b.length ≤ 100
 sq : (b.map fun q => q.2 * q.2).sum = n.wh * n.mx
 small : n.wh ≤ 1000 ∧ n.mx ≤ 1000
 ulen : us.length = 5
 uval : ∀ i, i ≤ 4 → b.lookup i = some (us.getD i 0)
 usm : ∀ c ∈ us, c ≤ 1000
theorem DU (l : List Int) (hl : l.length ≤ 63) {tx br cs ms : List Nat} {n : Net} {us : List Nat} {b : Bk} (H : D9 (af l) tx br cs ms n us b) :
  ∃ ρ' σ', (ba (ex (O 20) (am (bG 74)) 2000 100) (av (bG 74)) (aS [] ([S "script"].zip [.lst (l.map .int)])) []).run = some (.ret (.bool true), ρ', σ') := by
 have I := uR (af l) 4
 have e0 : (O 20).fn (S "_law_page") [.lst (l.map .int)] [] = some (.tup [uW (af l), q8 (af l), nI (aN (af l) 4).2.2, .lst ((Ei (bf (af l))).map .str)], []) := zD 18 l hl []
 have e1 : (O 20).fn (S "_law_text") [.lst ((bu (gM (af l)) (aN (af l) 4).1).map aA)] [] = some (.str tx, []) := by
  have := zB 16 (gM (af l)) (aN (af l) 4).1 [] H.good (by rw [I.size]; decide) (by rw [H.txt]; exact Nat.le_trans H.tlen (by decide))
  rw [H.txt] at this
  exact this
 have e2 : (O 20).fn (S "_strip_quoted_realnames") [.str tx] [] = some (.str br, []) := by
  have := pH 18 tx [] (Nat.le_trans H.tlen (by decide))
  rw [H.bare] at this
  exact this
 have e4 : (O 20).fn (S "_law_places") [.str (br ++ [92])] [] = some (.bool true, []) := to 18 (br ++ [92]) [] (by rw [List.length_append]; have := H.blen; simp only [List.length_cons, List.length_nil]; lia)
 have e4a := ln (σ := []) (x := br) (y := [92]) (by have := H.blen; simp only [List.length_cons, List.length_nil]; lia)
 have e5 : (O 20).fn (S "_law_cut") [.str br] [] = some (.lst (cs.map (dg (bf (af l)))), []) := by
  have := DV 18 br [] (Nat.le_trans H.blen (by decide))
  rw [H.cut] at this
  exact this
 have e5a : (O 20).fn (S "_law_net") [.lst (cs.map (dg (bf (af l))))] [] = some (.lst [bt (bf (af l)) n], []) := DT 17 (bf (af l)) cs [] H.net H.clen
 have e6 : (O 20).fn (S "_law_tried") [q8 (af l), nI (aN (af l) 4).2.2] [] = some (.tup [nI n.wh, nI n.mx, .lst (us.map nI)], []) := by
  have := vX 17 (aN (af l) 4).2.1 (aN (af l) 4).2.2 [] I.wlen I.wlt I.jlo (Nat.le_trans I.jhi (by decide))
  rw [H.tried] at this
  exact this
 have e9 : (O 20).fn (S "_law_send") [bt (bf (af l)) n, nI n.wh, bk] (hS []) = some (.bool true, hS (hB (bf (af l)) b)) := js (bf (af l)) H.nm n 14 n.wh [] b H.dp H.send (fun p hp => by cases hp)
 have e9k : (O 20).meth 275 (S "keys") [bk] [] (hS (hB (bf (af l)) b)) = some (.lst (((aN (af l) 4).1.wires.map (bf (af l))).map .str), hS (hB (bf (af l)) b)) := by
  have := zF 18 (hB (bf (af l)) b) (by unfold hB; rw [List.length_map]; exact Nat.le_trans H.blen2 (by decide))
  rw [show ((hB (bf (af l)) b).map fun p => D.str p.1) = ((aN (af l) 4).1.wires.map (bf (af l))).map .str from by rw [← H.keys]; unfold hB; rw [List.map_map, List.map_map, List.map_map]; rfl] at this
  exact this
 have z3 := uf (l.map .int) ((bu (gM (af l)) (aN (af l) 4).1).map aA) ((aN (af l) 4).2.1.map ad) (aN (af l) 4).2.2 (bf (af l)) tx br H.blen H.tlen H.chk1 H.chk2 H.chk3
 have z9 := wZ (l.map .int) ((aN (af l) 4).2.1.map ad) (aN (af l) 4).2.2 (bf (af l)) tx br (bt (bf (af l)) n) n.wh n.mx (us.map nI) (gM (af l)) (aN (af l) 4).1 (fun i hi => (I.mem i).mp hi) I.lead (by rw [I.size]; decide) (hB (bf (af l)) b)
 rw [show ((aN (af l) 4).1.wires.map fun i => D.str (bf (af l) i)) = ((aN (af l) 4).1.wires.map (bf (af l))).map .str from by rw [List.map_map]; rfl] at z9
 have z10 := AU (l.map .int) ((bu (gM (af l)) (aN (af l) 4).1).map aA) ((aN (af l) 4).2.1.map ad) (aN (af l) 4).2.2 (bf (af l)) tx br (bt (bf (af l)) n) n.wh n.mx us b (fun q hq => (H.b4 q hq).2) H.blen2
 have z10s := xr (σ := hS (hB (bf (af l)) b)) (b.map fun q => q.2 * q.2)
 have z10m := cm (σ := hS (hB (bf (af l)) b)) (a := n.wh) (b := n.mx) (Nat.le_trans H.small.1 (by decide)) (Nat.le_trans H.small.2 (by decide))
 rw [H.sq] at z10s
 have z11 := AW (l.map .int) ((bu (gM (af l)) (aN (af l) 4).1).map aA) ((aN (af l) 4).2.1.map ad) (aN (af l) 4).2.2 (bf (af l)) tx br (bt (bf (af l)) n) n.wh n.mx us b H.nm H.sw (fun q hq => (H.b4 q hq).1) H.uval
 have z12 := AV (l.map .int) ((bu (gM (af l)) (aN (af l) 4).1).map aA) ((aN (af l) 4).2.1.map ad) (aN (af l) 4).2.2 (bf (af l)) tx br (bt (bf (af l)) n) n.wh n.mx us H.ulen H.usm (hS (hB (bf (af l)) b))
 have hus : (us.map fun (c : Nat) => ah (c : Int)) = [ah (us.getD 0 0), ah (us.getD 1 0), ah (us.getD 2 0), ah (us.getD 3 0), ah (us.getD 4 0)] := by
  exact Dl H.ulen
 rw [hus] at z12
 have ne9 := va (o := O 20) (σ := hS (hB (bf (af l)) b)) ((aN (af l) 4).1.wires.map (bf (af l)))
 have eq12 := vO (o := O 20) (σ := hS (hB (bf (af l)) b)) [ah (us.getD 0 0), ah (us.getD 1 0), ah (us.getD 2 0), ah (us.getD 3 0), ah (us.getD 4 0)]
 have ne7 := u9 (o := O 20) (σ := []) n.wh n.mx
 obtain ⟨d2, d3, d4, hn⟩ := gy (bf (af l)) n
 rw [hn] at e5a e9 z9 z10 z11 z12
 clear H I hn hus
 unfold uW q8 at e0
 unfold q8 at e6
 generalize [ah (us.getD 0 0), ah (us.getD 1 0), ah (us.getD 2 0), ah (us.getD 3 0), ah (us.getD 4 0)].map D.str = tl at *
 generalize (b.map fun q => q.2 * q.2).map nI = sl at *
 generalize ((aN (af l) 4).1.wires.map (bf (af l))).map D.str = kl at *
 generalize cs.map (dg (bf (af l))) = cl at *
 generalize (bu (gM (af l)) (aN (af l) 4).1).map aA = pg at *
 generalize (aN (af l) 4).2.1.map ad = wi at *
 generalize (aN (af l) 4).2.2 = jo at *
 generalize hS (hB (bf (af l)) b) = σ at *
 generalize bf (af l) = nm at *
 generalize l.map D.int = sc at *
 generalize us.map nI = ul at *
 generalize n.wh * n.mx = wm at *
 generalize n.wh = t at *
 generalize n.mx = p at *
 generalize br ++ [92] = br2 at *
 have f0 : (ba (ex (O 20) (am sQ) 2000 100) ((av sQ).take 3) [(S "script", .lst sc)] []).run = some (.next, zU sc pg wi jo nm tx br, []) :=
  ac (p := [.s (.tup [.lst pg, .lst wi, nI jo, .lst ((Ei nm).map .str)], []), .s (.str tx, []), .s (.str br, [])]) (by kernel_rfl) (aI e0 (aI e1 (aI e2 trivial)))
 have f3 : (ba (ex (O 20) (am sQ) 2000 100) (hh 3) (zU sc pg wi jo nm tx br) []).run = some (.next, AY sc pg wi jo nm tx br, []) :=
  ac (p := [.s (.lst [.bool true, .bool false, .bool false], [])]) (by kernel_rfl) (aI z3 trivial)
 have f4 : (ba (ex (O 20) (am sQ) 2000 100) (hh 4) (AY sc pg wi jo nm tx br) []).run = some (.next, AY sc pg wi jo nm tx br, []) :=
  ac (p := [.skip 2, .d (.str br2), .s (.bool true, [])]) (by kernel_rfl) (aI e4a (aI e4 trivial))
 have f5 : (ba (ex (O 20) (am sQ) 2000 100) (hh 5) (AY sc pg wi jo nm tx br) []).run = some (.next, Ew sc pg wi jo nm tx br (.tup [nI t, nI p, d2, d3, d4]), []) :=
  ac (p := [.s (.lst cl, []), .s (.lst [.tup [nI t, nI p, d2, d3, d4]], [])]) (by kernel_rfl) (aI e5 (aI e5a trivial))
 have f6 : (ba (ex (O 20) (am sQ) 2000 100) (hh 6) (Ew sc pg wi jo nm tx br (.tup [nI t, nI p, d2, d3, d4])) []).run = some (.next, AX sc pg wi jo nm tx br (.tup [nI t, nI p, d2, d3, d4]) t p ul, []) :=
  ac (p := [.s (.tup [nI t, nI p, .lst ul], [])]) (by kernel_rfl) (aI e6 trivial)
 have f7 : (ba (ex (O 20) (am sQ) 2000 100) (hh 7) (AX sc pg wi jo nm tx br (.tup [nI t, nI p, d2, d3, d4]) t p ul) []).run = some (.next, AX sc pg wi jo nm tx br (.tup [nI t, nI p, d2, d3, d4]) t p ul, []) :=
  ac (p := [.skip 4, .b false]) (by kernel_rfl) (aI ne7 trivial)
 have f8 : (ba (ex (O 20) (am sQ) 2000 100) (hh 8) (AX sc pg wi jo nm tx br (.tup [nI t, nI p, d2, d3, d4]) t p ul) []).run = some (.next, lr sc pg wi jo nm tx br (.tup [nI t, nI p, d2, d3, d4]) t p ul, hS []) :=
  ac (p := [.s (bk, hS [])]) (by kernel_rfl) (aI (qC 18) trivial)
 have f9 : (ba (ex (O 20) (am sQ) 2000 100) (hh 9) (lr sc pg wi jo nm tx br (.tup [nI t, nI p, d2, d3, d4]) t p ul) (hS [])).run = some (.next, lr sc pg wi jo nm tx br (.tup [nI t, nI p, d2, d3, d4]) t p ul, σ) :=
  ac (p := [.skip 0, .s (.bool true, σ), .skip 1, .s (.lst kl, σ), .s (.lst kl, σ), .b false]) (by kernel_rfl) (aI e9 (aI e9k (aI z9 (aI ne9 trivial))))
 have n10 : some (true != ((wm : Int) == (wm : Int))) = some false := by rw [beq_self_eq_true]; rfl
 have f10 : (ba (ex (O 20) (am sQ) 2000 100) (hh 10) (lr sc pg wi jo nm tx br (.tup [nI t, nI p, d2, d3, d4]) t p ul) σ).run = some (.next, lr sc pg wi jo nm tx br (.tup [nI t, nI p, d2, d3, d4]) t p ul, σ) :=
  ac (p := [.s (.lst sl, σ), .d (nI wm), .skip 3, .d (nI wm), .b false]) (by kernel_rfl) (aI z10 (aI z10s (aI z10m (aI n10 trivial))))
 have f11 : (ba (ex (O 20) (am sQ) 2000 100) ((av sQ).drop 11) (lr sc pg wi jo nm tx br (.tup [nI t, nI p, d2, d3, d4]) t p ul) σ).run = some (.ret (.bool true), lr sc pg wi jo nm tx br (.tup [nI t, nI p, d2, d3, d4]) t p ul, σ) :=
  ac (p := [.s (.lst tl, σ), .s (.lst tl, σ), .b true]) (by kernel_rfl) (aI z11 (aI z12 (aI eq12 trivial)))
 exact ⟨_, _, aX 3 f0 rfl (aX 1 f3 List.drop_drop (aX 1 f4 List.drop_drop (aX 1 f5 List.drop_drop (aX 1 f6 List.drop_drop (aX 1 f7 List.drop_drop (aX 1 f8 List.drop_drop (aX 1 f9 List.drop_drop (aX 1 f10 List.drop_drop f11))))))))⟩
end
section
noncomputable def toks : Bool → Tr → List Nat
 | _, .leaf _ w => [256 + w]
 | ab, .node _ sg a b => (if ab && !sg then [7] else []) ++ (toks sg a ++ ((if sg then 47 else 14) :: (toks sg b ++ (if ab && !sg then [8] else []))))
noncomputable def bc (wd : Nat → List Nat) (ts : List Nat) : List Nat := (ts.map (dP wd)).flatten
theorem jh (wd : Nat → List Nat) (a b : List Nat) : bc wd (a ++ b) = bc wd a ++ bc wd b := by unfold bc; rw [List.map_append, List.flatten_append]
theorem jM (wd : Nat → List Nat) (w : Nat) : dP wd (256 + w) = wd w := by
 have : Nat.ble 256 (256 + w) = true := Nat.ble_eq.mpr (Nat.le_add_right _ _)
 unfold dP
 rw [this, if_pos rfl, Nat.add_sub_cancel_left]
theorem km (wd : Nat → List Nat) : ∀ (t : Tr) (ab : Bool), tx wd ab t = bc wd (toks ab t)
 | .leaf l w, ab => by
  show wd w = (dP wd (256 + w) ++ [] : List Nat)
  rw [jM, List.append_nil]
 | .node l sg a b, ab => by
  simp only [tx, toks, jh, km wd a, km wd b]
  have h1 : ∀ c : Bool, bc wd (if c then [7] else []) = if c then [40] else [] := fun c => by cases c <;> rfl
  have h2 : ∀ c : Bool, bc wd (if c then [8] else []) = if c then [41] else [] := fun c => by cases c <;> rfl
  have h3 : ∀ x, bc wd ((if sg then 47 else 14) :: x) = cw sg ++ bc wd x := fun x => by cases sg <;> rfl
  rw [h1, h3, jh, h2]
noncomputable def qU : Bool → List Nat → Bool
 | b, [] => b
 | true, _ :: r => qU false r
 | false, c :: r => if c == 92 then qU true r else qU false r
theorem eB : ∀ (w rest : List Nat) (p : Nat) (b : Bool), qU b w = false → az p b (w ++ rest) = az p b w ++ az (p + w.length) false rest
 | [], rest, p, true, h => by cases h
 | [], rest, p, false, _ => rfl
 | c :: w, rest, p, true, h => by
  simp only [List.cons_append, az, eB w rest (p + 1) false h, List.length_cons]
  rw [show p + 1 + w.length = p + (w.length + 1) by lia]
 | c :: w, rest, p, false, h => by
  unfold qU at h
  simp only [List.cons_append, az, List.length_cons]
  cases hc : c == 92 with
  | true =>
   rw [hc, if_pos rfl] at h
   simp only [if_true]
   rw [eB w rest (p + 1) true h, show p + 1 + w.length = p + (w.length + 1) by lia]
  | false =>
   rw [hc] at h
   simp only [Bool.false_eq_true, if_false, List.cons_append] at h ⊢
   rw [eB w rest (p + 1) false h, show p + 1 + w.length = p + (w.length + 1) by lia]
noncomputable def m7 : Bool → List Nat → List (List Nat)
 | true, [] => [[92]]
 | false, [] => []
 | true, c :: r => [92, c] :: m7 false r
 | false, c :: r => if c == 92 then m7 true r else [c] :: m7 false r
theorem cE : ∀ (w : List Nat) (p : Nat) (b : Bool), (az p b w).map Prod.snd = m7 b w
 | [], p, true => rfl
 | [], p, false => rfl
 | c :: w, p, true => by simp only [az, m7, List.map_cons, cE w]
 | c :: w, p, false => by
  simp only [az, m7]
  split
  ·exact cE w _ _
  ·rw [List.map_cons, cE w]
theorem hU (s : List Nat) : ∀ (l : List (Nat × List Nat)) (st : gL), (∀ q ∈ l, (q.2 == [34]) = false) → l.foldl (bW s) st = st
 | [], _, _ => rfl
 | q :: l, st, h => by
  rw [List.foldl_cons]
  have : bW s st q = st := by unfold bW; rw [h q (List.mem_cons_self ..)]; rfl
  rw [this]
  exact hU s l st fun q hq => h q (List.mem_cons_of_mem _ hq)
noncomputable def plain (w : List Nat) : Bool := !(qU false w) && (m7 false w).all fun x => !(x == [34])
theorem p9 {w : List Nat} (h : plain w = true) (p : Nat) : qU false w = false ∧ ∀ q ∈ az p false w, (q.2 == [34]) = false := by
 simp only [plain, Bool.and_eq_true, Bool.not_eq_true', List.all_eq_true] at h
 refine ⟨h.1, fun q hq => h.2 q.2 ?_⟩
 rw [← cE w p]
 exact List.mem_map.mpr ⟨q, hq, rfl⟩
theorem lJ (s : List Nat) (p a : Nat) (res : List (List Nat)) : ∀ m ∈ rmkT, m ≠ [] → qU false m = false ∧ (az p false m).foldl (bW s) (a, none, res) = (p + m.length, none, bif a != p then res ++ [(s.drop a).take (p - a)] else res) := by
 intro m hm hne
 simp only [rmkT, List.mem_cons, List.not_mem_nil, or_false] at hm
 rcases hm with rfl | rfl | rfl | rfl
 ·exact absurd rfl hne
 ·exact ⟨rfl, rfl⟩
 ·exact ⟨rfl, rfl⟩
 ·exact ⟨rfl, rfl⟩
noncomputable def n6 (s : List Nat) (p : Nat) (k : List Nat) (st : gL) : Prop := st.2.1 = none ∧ st.1 ≤ p ∧ st.2.2.flatten ++ (s.drop st.1).take (p - st.1) = k
theorem nw {s pre w rest : List Nat} {p : Nat} {k : List Nat} {st : gL} (hs : s = pre ++ (w ++ rest)) (hp : pre.length = p) (h : n6 s p k st) : n6 s (p + w.length) (k ++ w) st := by
 obtain ⟨h1, h2, h3⟩ := h
 refine ⟨h1, Nat.le_add_right_of_le h2, ?_⟩
 have e1 : s.drop st.1 = (s.drop st.1).take (p - st.1) ++ (w ++ rest) := by
  have e : (s.drop st.1).drop (p - st.1) = w ++ rest := by
   rw [List.drop_drop, Nat.add_sub_of_le h2, hs, ← hp, List.drop_left]
  rw [← e, List.take_append_drop]
 have hlen : ((s.drop st.1).take (p - st.1)).length = p - st.1 := by
  rw [List.length_take, List.length_drop, hs, List.length_append, hp]
  exact Nat.min_eq_left (Nat.sub_le_sub_right (Nat.le_add_right ..) _)
 have e2 : (s.drop st.1).take (p + w.length - st.1) = (s.drop st.1).take (p - st.1) ++ w := by
  conv => lhs; rw [e1]
  rw [show p + w.length - st.1 = ((s.drop st.1).take (p - st.1)).length + w.length by rw [hlen]; exact Nat.sub_add_comm h2, List.take_length_add_append, List.take_left]
 rw [e2, ← List.append_assoc, h3]
theorem su {s : List Nat} {p : Nat} {k : List Nat} {st : gL} (h : n6 s p k st) {m : List Nat} (hm : m ∈ rmkT) (hne : m ≠ []) : n6 s (p + m.length) k ((az p false m).foldl (bW s) st) := by
 obtain ⟨a, o, res⟩ := st
 obtain ⟨h1, h2, h3⟩ := h
 simp only at h1 h2 h3
 subst h1
 rw [(lJ s p a res m hm hne).2]
 refine ⟨rfl, Nat.le_refl _, ?_⟩
 simp only [Nat.sub_self, List.take_zero, List.append_nil]
 cases hap : a != p with
 | true => rw [cond_true, List.flatten_append, ← h3]; simp
 | false =>
  have : a = p := by simpa using hap
  clear h2 hap; subst this
  rw [cond_false, ← h3, Nat.sub_self, List.take_zero, List.append_nil]
end
section
noncomputable def bS (c : Nat) : Bool := (c == 7 || c == 8 || c == 14 || c == 47) || (Nat.ble 256 c && Nat.ble (c - 256) 4)
theorem gO {c : Nat} (h : bS c = true) : c = 7 ∨ c = 8 ∨ c = 14 ∨ c = 47 ∨ ∃ i, i ≤ 4 ∧ c = 256 + i := by
 simp only [bS, Bool.or_eq_true, Bool.and_eq_true, beq_iff_eq, Nat.ble_eq] at h
 rcases h with (((h | h) | h) | h) | h
 ·exact .inl h
 ·exact .inr (.inl h)
 ·exact .inr (.inr (.inl h))
 ·exact .inr (.inr (.inr (.inl h)))
 ·exact .inr (.inr (.inr (.inr ⟨c - 256, h.2, by omega⟩)))
noncomputable def qP (rm : Nat → List Nat) (c : Nat) : List Nat := if Nat.ble 256 c then rm (c - 256) else []
theorem rb (nm rm : Nat → List Nat) (c : Nat) : dP (fun i => nm i ++ rm i) c = dP nm c ++ qP rm c := by
 delta dP qP
 cases Nat.ble 256 c
 ·simp only [Bool.false_eq_true, if_false, List.append_nil]
 ·simp only [if_true]
section
variable {nm rm : Nat → List Nat} (hn : ∀ i, i ≤ 4 → plain (nm i) = true) (hr : ∀ i, i ≤ 4 → rm i ∈ rmkT)
include hn in
theorem ra {c : Nat} (h : bS c = true) : plain (dP nm c) = true := by
 rcases gO h with rfl | rfl | rfl | rfl | ⟨i, hi, rfl⟩
 ·rfl
 ·rfl
 ·rfl
 ·rfl
 ·rw [jM]; exact hn i hi
include hr in
theorem wg {c : Nat} (h : bS c = true) : qP rm c = [] ∨ qP rm c ∈ rmkT := by
 rcases gO h with rfl | rfl | rfl | rfl | ⟨i, hi, rfl⟩
 ·exact .inl rfl
 ·exact .inl rfl
 ·exact .inl rfl
 ·exact .inl rfl
 ·have : Nat.ble 256 (256 + i) = true := Nat.ble_eq.mpr (Nat.le_add_right _ _)
  delta qP
  rw [this, if_pos rfl, Nat.add_sub_cancel_left]
  exact .inr (hr i hi)
include hn hr in
theorem fu (s : List Nat) : ∀ (ts pre : List Nat) (p : Nat) (k : List Nat) (st : gL), (∀ c ∈ ts, bS c = true) → s = pre ++ bc (fun i => nm i ++ rm i) ts → pre.length = p → n6 s p k st →
  n6 s s.length (k ++ bc nm ts) ((az p false (bc (fun i => nm i ++ rm i) ts)).foldl (bW s) st)
 | [], pre, p, k, st, _, hs, hp, h => by
  have e : s.length = p := by rw [hs, ← hp]; show (pre ++ []).length = _; rw [List.append_nil]
  rw [e]
  show n6 s p (k ++ []) st
  rw [List.append_nil]
  exact h
 | c :: ts, pre, p, k, st, ht, hs, hp, h => by
  have hc := ht c (List.mem_cons_self ..)
  have hf : bc (fun i => nm i ++ rm i) (c :: ts) = dP nm c ++ (qP rm c ++ bc (fun i => nm i ++ rm i) ts) := by
   show dP (fun i => nm i ++ rm i) c ++ bc (fun i => nm i ++ rm i) ts = _
   rw [rb, List.append_assoc]
  have hf2 : bc nm (c :: ts) = dP nm c ++ bc nm ts := rfl
  rw [hf] at hs
  rw [hf, hf2]
  have h1 := nw hs hp h
  have hpl := p9 (ra hn hc) p
  rw [eB _ _ _ _ hpl.1, List.foldl_append, hU s _ st hpl.2]
  generalize dP nm c = w at *
  have hs2 : s = (pre ++ w) ++ (qP rm c ++ bc (fun i => nm i ++ rm i) ts) := by rw [List.append_assoc]; exact hs
  have hp2 : (pre ++ w).length = p + w.length := by rw [List.length_append, hp]
  have hrm := wg hr hc
  generalize qP rm c = m at *
  rw [← List.append_assoc k]
  by_cases hm : m = []
  ·clear hs hf hrm; subst hm
   exact fu s ts (pre ++ w) (p + w.length) (k ++ w) st (fun c hc => ht c (List.mem_cons_of_mem _ hc)) hs2 hp2 h1
  ·have hm2 := hrm.resolve_left hm
   rw [eB _ _ _ _ (lJ s p 0 [] m hm2 hm).1, List.foldl_append]
   exact fu s ts (pre ++ w ++ m) (p + w.length + m.length) (k ++ w) _ (fun c hc => ht c (List.mem_cons_of_mem _ hc)) (by rw [List.append_assoc]; exact hs2) (by rw [List.length_append, hp2]) (su h1 hm2 hm)
include hr in
theorem ww : ∀ ts : List Nat, (∀ c ∈ ts, bS c = true) → (bc (fun i => nm i ++ rm i) ts).contains 34 = false → bc (fun i => nm i ++ rm i) ts = bc nm ts
 | [], _, _ => rfl
 | c :: ts, ht, h => by
  have hf : bc (fun i => nm i ++ rm i) (c :: ts) = dP nm c ++ (qP rm c ++ bc (fun i => nm i ++ rm i) ts) := by
   show dP (fun i => nm i ++ rm i) c ++ bc (fun i => nm i ++ rm i) ts = _
   rw [rb, List.append_assoc]
  rw [hf] at h ⊢
  have h2 : (qP rm c).contains 34 = false ∧ (bc (fun i => nm i ++ rm i) ts).contains 34 = false := by
   simp only [List.contains_eq_mem, List.mem_append, decide_eq_false_iff_not, not_or] at h ⊢
   exact h.2
  have hm : qP rm c = [] := by
   have hrm := wg hr (ht c (List.mem_cons_self ..))
   have h1 := h2.1
   generalize qP rm c = m at *
   rcases hrm with h | h
   ·exact h
   ·have : ∀ m ∈ rmkT, m.contains 34 = false → m = [] := by decide
    exact this m h h1
  rw [hm, ww ts (fun c hc => ht c (List.mem_cons_of_mem _ hc)) h2.2]
  rfl
include hn hr in
theorem iK (ts : List Nat) (ht : ∀ c ∈ ts, bS c = true) : bR (bc (fun i => nm i ++ rm i) ts) = bc nm ts := by
 delta bR
 cases hc : (bc (fun i => nm i ++ rm i) ts).contains 34 with
 | false => rw [cond_false]; exact ww hr ts ht hc
 | true =>
  rw [cond_true]
  have h := fu hn hr (bc (fun i => nm i ++ rm i) ts) ts [] 0 [] (0, none, []) ht rfl rfl ⟨rfl, Nat.le_refl _, by simp⟩
  generalize bc (fun i => nm i ++ rm i) ts = s at *
  generalize (az 0 false s).foldl (bW s) (0, none, []) = st at *
  obtain ⟨a, o, res⟩ := st
  obtain ⟨h1, h2, h3⟩ := h
  simp only [List.nil_append] at h1 h2 h3 ⊢
  rw [← h3]
  have e : (s.drop a).take (s.length - a) = s.drop a := List.take_of_length_le (by rw [List.length_drop]; exact Nat.le_refl _)
  rw [e]
  cases hb : Nat.blt a s.length with
  | true => rw [cond_true, List.flatten_append]; simp
  | false =>
   have : ¬ a < s.length := fun h => by
    have := Nat.blt_eq.mpr h
    rw [hb] at this; cases this
   rw [cond_false, List.drop_of_length_le (by omega), List.append_nil]
end
end
section
noncomputable def lp (nm : Nat → List Nat) (c : Nat) : List (List Nat) := if c == 47 then [[47], [47]] else [dP nm c]
noncomputable def i4 (s : List Nat) : Bool := m7 false s == [s] && !(qU false s) && !(s == [40]) && !(s == [41]) && !(s == [34])
theorem uB (w rest : List Nat) (h : qU false w = false) : m7 false (w ++ rest) = m7 false w ++ m7 false rest := by
 rw [← cE (w ++ rest) 0, eB w rest 0 false h, List.map_append, cE, cE]
noncomputable def kY : List (List Nat) → Int → Option Int
 | [], n => some n
 | q :: r, n => bif q == [40] then kY r (n + 1) else bif q == [41] then (bif decide (n - 1 < 0) then none else kY r (n - 1)) else kY r n
theorem wO : ∀ (l : List (Nat × List Nat)) (n : Int), vU l n = kY (l.map Prod.snd) n
 | [], n => rfl
 | q :: l, n => by simp only [vU, kY, List.map_cons, wO l]
noncomputable def fJ : List Nat → Int → Option Int
 | [], n => some n
 | c :: r, n => bif c == 7 then fJ r (n + 1) else bif c == 8 then (bif decide (n - 1 < 0) then none else fJ r (n - 1)) else fJ r n
theorem gC : ∀ (a b : List Nat) (n : Int), fJ (a ++ b) n = (fJ a n).bind (fJ b)
 | [], b, n => rfl
 | c :: a, b, n => by
  simp only [List.cons_append, fJ]
  cases c == 7
  ·cases c == 8
   ·exact gC a b n
   ·simp only [cond_false, cond_true]
    cases decide (n - 1 < 0)
    ·exact gC a b _
    ·rfl
  ·exact gC a b _
section
variable {nm : Nat → List Nat} (hn : ∀ i, i ≤ 4 → i4 (nm i) = true)
theorem nj {s : List Nat} (h : i4 s = true) : m7 false s = [s] ∧ qU false s = false ∧ (s == [40]) = false ∧ (s == [41]) = false ∧ (s == [34]) = false := by
 simp only [i4, Bool.and_eq_true, Bool.not_eq_true'] at h
 obtain ⟨⟨⟨⟨h1, h2⟩, h3⟩, h4⟩, h5⟩ := h
 exact ⟨eq_of_beq h1, h2, h3, h4, h5⟩
theorem i0 {s : List Nat} (h : i4 s = true) : plain s = true := by
 obtain ⟨h1, h2, _, _, h5⟩ := nj h
 unfold plain
 rw [h1, h2]
 simp only [List.all_cons, List.all_nil, h5]
 rfl
include hn in
theorem uz {c : Nat} (h : bS c = true) : qU false (dP nm c) = false ∧ m7 false (dP nm c) = lp nm c := by
 rcases gO h with rfl | rfl | rfl | rfl | ⟨i, hi, rfl⟩
 ·exact ⟨rfl, rfl⟩
 ·exact ⟨rfl, rfl⟩
 ·exact ⟨rfl, rfl⟩
 ·exact ⟨rfl, rfl⟩
 ·have hx : (256 + i == 47) = false := by rw [beq_eq_false_iff_ne]; lia
  unfold lp
  rw [hx, jM]
  have := nj (hn i hi)
  exact ⟨this.2.1, this.1⟩
include hn in
theorem iQ : ∀ ts : List Nat, (∀ c ∈ ts, bS c = true) → m7 false (bc nm ts) = (ts.map (lp nm)).flatten
 | [], _ => rfl
 | c :: ts, ht => by
  have h := uz hn (ht c (List.mem_cons_self ..))
  show m7 false (dP nm c ++ bc nm ts) = _
  rw [uB _ _ h.1, h.2, iQ ts fun c hc => ht c (List.mem_cons_of_mem _ hc)]
  rfl
include hn in
theorem mA : ∀ (ts : List Nat) (n : Int), (∀ c ∈ ts, bS c = true) → kY ((ts.map (lp nm)).flatten) n = fJ ts n
 | [], n, _ => rfl
 | c :: ts, n, ht => by
  have ih := fun m => mA ts m fun c hc => ht c (List.mem_cons_of_mem _ hc)
  rw [List.map_cons, List.flatten_cons]
  rcases gO (ht c (List.mem_cons_self ..)) with rfl | rfl | rfl | rfl | ⟨i, hi, rfl⟩
  ·exact ih _
  ·show (bif decide (n - 1 < 0) then none else kY ((ts.map (lp nm)).flatten) (n - 1)) = (bif decide (n - 1 < 0) then none else fJ ts (n - 1))
   rw [ih]
  ·exact ih _
  ·exact ih _
  ·have hx : (256 + i == 47) = false ∧ (256 + i == 7) = false ∧ (256 + i == 8) = false := ⟨by rw [beq_eq_false_iff_ne]; lia, by rw [beq_eq_false_iff_ne]; lia, by rw [beq_eq_false_iff_ne]; lia⟩
   have h1 := nj (hn i hi)
   unfold lp fJ
   rw [hx.1, hx.2.1, hx.2.2, jM]
   show kY (nm i :: (ts.map (lp nm)).flatten) n = fJ ts n
   unfold kY
   rw [h1.2.2.1, h1.2.2.2.1]
   exact ih _
include hn in
theorem jp {rm : Nat → List Nat} (hr : ∀ i, i ≤ 4 → rm i ∈ rmkT) (ts : List Nat) (ht : ∀ c ∈ ts, bS c = true) : cb (bc (fun i => nm i ++ rm i) ts) = match fJ ts 0 with | some n => n == 0 | none => false := by
 unfold cb
 rw [iK (fun i hi => i0 (hn i hi)) hr ts ht, wO, cE, iQ hn ts ht, mA hn ts 0 ht]
 all_goals (cases fJ ts 0 <;> rfl)
theorem yB (nm : Nat → List Nat) : (fun i => nm i ++ (fun _ : Nat => ([] : List Nat)) i) = nm := funext fun i => List.append_nil _
include hn in
theorem jq (ts : List Nat) (ht : ∀ c ∈ ts, bS c = true) : cb (bc nm ts) = match fJ ts 0 with | some n => n == 0 | none => false := by
 have h := jp hn (rm := fun _ => []) (fun i _ => by decide) ts ht
 rw [yB] at h
 exact h
end
end
section
noncomputable def nmA : List (List Nat) := [[65], [98], [66], [92, 40], [99], [67], [92, 43], [100], [68], [92, 47], [101], [69], [92, 34]]
noncomputable def rU : List (List Nat) := [[40], [41], [43]]
theorem EG : (rU ++ nmA).map (fun a => ([47] :: (rU ++ nmA)).map fun b => df (a ++ b)) = (rU ++ nmA).map fun _ => ([47] :: (rU ++ nmA)).map fun _ => false := by kernel_rfl
theorem EI : df [47, 47] = true := by kernel_rfl
theorem ot : dq [40] = .int 7 ∧ dq [41] = .int 8 ∧ dq [43] = .int 14 ∧ dq [47, 47] = .int 47 := ⟨by kernel_rfl, by kernel_rfl, by kernel_rfl, by kernel_rfl⟩
theorem EH : nmA.map dq = nmA.map fun _ => .int 256 := by kernel_rfl
theorem yv {a b : List Nat} (ha : a ∈ rU ++ nmA) (hb : b ∈ [47] :: (rU ++ nmA)) : df (a ++ b) = false := mem_map hb (mem_map ha EG)
section
variable {nm : Nat → List Nat} (hn : ∀ i, i ≤ 4 → nm i ∈ nmA)
include hn in
theorem v8 {c : Nat} (h : bS c = true) (h2 : (c == 47) = false) : dP nm c ∈ rU ++ nmA := by
 rcases gO h with rfl | rfl | rfl | rfl | ⟨i, hi, rfl⟩
 ·exact List.mem_append_left _ (show [40] ∈ rU by decide)
 ·exact List.mem_append_left _ (show [41] ∈ rU by decide)
 ·exact List.mem_append_left _ (show [43] ∈ rU by decide)
 ·cases h2
 ·rw [jM]; exact List.mem_append_right _ (hn i hi)
include hn in
theorem mz : ∀ ts : List Nat, (∀ c ∈ ts, bS c = true) → cU ((ts.map (lp nm)).flatten ++ [[]]) = ts.map (dP nm)
 | [], _ => rfl
 | c :: ts, ht => by
  have hc := ht c (List.mem_cons_self ..)
  have ht2 : ∀ c ∈ ts, bS c = true := fun c hc => ht c (List.mem_cons_of_mem _ hc)
  have ih := mz ts ht2
  rw [List.map_cons, List.flatten_cons, List.map_cons]
  cases h47 : c == 47 with
  | true =>
   have := eq_of_beq h47
   clear ht hc h47; subst this
   show cU ([47] :: [47] :: ((ts.map (lp nm)).flatten ++ [[]])) = [47, 47] :: ts.map (dP nm)
   unfold cU
   rw [show ([47] ++ [47] : List Nat) = [47, 47] from rfl, EI, if_pos rfl, ih]
  | false =>
   have hs : lp nm c = [dP nm c] := by unfold lp; rw [h47]; rfl
   have hw := v8 hn hc h47
   rw [hs]
   show cU (dP nm c :: ((ts.map (lp nm)).flatten ++ [[]])) = dP nm c :: ts.map (dP nm)
   generalize dP nm c = w at *
   cases ts with
   | nil =>
    show (if df (w ++ []) then (w ++ []) :: cU [] else w :: cU [[]]) = [w]
    rw [List.append_nil]
    cases df w <;> rfl
   | cons d ts =>
    obtain ⟨x, r, hx, hxm⟩ : ∃ x r, (lp nm d ++ (ts.map (lp nm)).flatten) ++ [[]] = x :: r ∧ x ∈ [47] :: (rU ++ nmA) := by
     cases hd : d == 47 with
     | true => exact ⟨[47], [47] :: ((ts.map (lp nm)).flatten ++ [[]]), by unfold lp; rw [hd]; rfl, List.mem_cons_self ..⟩
     | false => exact ⟨dP nm d, (ts.map (lp nm)).flatten ++ [[]], by unfold lp; rw [hd]; rfl, List.mem_cons_of_mem _ (v8 hn (ht2 d (List.mem_cons_self ..)) hd)⟩
    rw [List.map_cons, List.flatten_cons, hx] at ih ⊢
    unfold cU
    rw [yv hw hxm, ih]
    rfl
include hn in
theorem vQ {c : Nat} (h : bS c = true) : cA (dP nm c) = dg nm c := by
 delta cA dg
 rcases gO h with rfl | rfl | rfl | rfl | ⟨i, hi, rfl⟩
 ·show D.tup [dq [40], _] = _
  rw [ot.1]; rfl
 ·show D.tup [dq [41], _] = _
  rw [ot.2.1]; rfl
 ·show D.tup [dq [43], _] = _
  rw [ot.2.2.1]; rfl
 ·show D.tup [dq [47, 47], _] = _
  rw [ot.2.2.2]; rfl
 ·have : Nat.ble 256 (256 + i) = true := Nat.ble_eq.mpr (Nat.le_add_right _ _)
  rw [jM, this, mem_map (hn i hi) EH]
  rfl
include hn in
theorem s6 (hs : ∀ i, i ≤ 4 → i4 (nm i) = true) (ts : List Nat) (ht : ∀ c ∈ ts, bS c = true) : (s8 (bc nm ts)).map cA ++ [.tup [.int 0, .str []]] = (ts ++ [0]).map (dg nm) := by
 delta s8
 rw [cE, iQ hs ts ht, mz hn ts ht, List.map_map, List.map_append]
 congr 1
 exact List.map_congr_left fun c hc => vQ hn (ht c hc)
end
noncomputable def Dc (i : Nat) : List (List Nat) := if i == 0 then [[65]] else nmT.getD i []
theorem gf (r : Nat → Nat) (i : Nat) (hi : i ≤ 4) : bf r i ∈ Dc i := by
 delta bf Dc
 cases h : i == 0 with
 | true => exact List.mem_singleton.mpr rfl
 | false =>
  simp only [Bool.false_eq_true, if_false]
  refine gr ?_
  have h3 : (nmT.getD i []).length = 3 := by
   have h0 : i ≠ 0 := beq_eq_false_iff_ne.mp h
   have : ∀ i, i < 5 → i ≠ 0 → (nmT.getD i []).length = 3 := by decide
   exact this i (by lia) h0
  rw [h3]
  exact Nat.mod_lt _ (by decide)
theorem cL : ∀ i, i < 5 → ∀ s ∈ Dc i, s ∈ nmA ∧ i4 s = true ∧ s.length ≤ 2 ∧ lT s = true ∧ s ≠ [] ∧ (s.map cY).map bH = s.map bH := by decide +kernel
theorem wx : ∀ s ∈ nmA, jD true s = true ∧ jD true (s.map bH) = true := by decide +kernel
theorem rX : ∀ i, i < 5 → ∀ j, j < 5 → ∀ s ∈ Dc i, ∀ t ∈ Dc j, s.map bH = t.map bH → i = j := by decide +kernel
theorem Db (r : Nat → Nat) : qM (bf r) where
 len := fun i hi => Nat.le_trans (cL i (Nat.lt_succ_of_le hi) _ (gf r i hi)).2.2.1 (by decide)
 re := fun i hi => (wx _ (cL i (Nat.lt_succ_of_le hi) _ (gf r i hi)).1).1
 rel := fun i hi => (wx _ (cL i (Nat.lt_succ_of_le hi) _ (gf r i hi)).1).2
 inj := fun i j hi hj e => rX i (Nat.lt_succ_of_le hi) j (Nat.lt_succ_of_le hj) _ (gf r i hi) _ (gf r j hj) e
theorem wf (r : Nat → Nat) (i : Nat) : BC r i ∈ rmkT := by
 delta BC
 cases i == 0 with
 | true => exact List.mem_cons_self ..
 | false => exact gr (Nat.mod_lt _ (by decide))
end
section
noncomputable def Tr.er : Tr → Tr
 | .leaf _ w => .leaf [] w
 | .node _ s a b => .node [] s a.er b.er
theorem kq : ∀ (t : Tr) (ab : Bool), toks ab t.er = toks ab t
 | .leaf _ _, _ => rfl
 | .node _ s a b, ab => by simp only [Tr.er, toks, kq a, kq b]
theorem iH : ∀ t : Tr, t.er.wires = t.wires
 | .leaf _ _ => rfl
 | .node _ s a b => by simp only [Tr.er, Tr.wires, iH a, iH b]
theorem nQ (o new : Nat) (sg : Bool) (sf : List Nat) (tn : Bool) : ∀ t : Tr, (t.put o new sg sf tn).er = t.er.put o new sg [] false
 | .leaf l w => by
  simp only [Tr.put, Tr.er]
  split <;> rfl
 | .node l s a b => by simp only [Tr.put, Tr.er, nQ o new sg sf tn a, nQ o new sg sf tn b]
noncomputable def zX (n o : Nat) (sg : Bool) (s : tI) : tI := (s.1.put o n sg [] false, cg s.2.1 o (s.2.1.getD o (0, 0)).1 (s.2.1.getD o (0, 0)).2 s.2.2 sg, s.2.2 + (1 - jO sg))
noncomputable def EN (a b c : Nat) (s1 s2 s3 s4 : Bool) : tI := zX 4 c s4 (zX 3 b s3 (zX 2 a s2 (zX 1 0 s1 (.leaf [] 0, [(0, 1)], 2))))
noncomputable def AO (s : tI) : tI := (s.1.er, s.2)
theorem gw (r : Nat → Nat) (n : Nat) (s : tI) : AO (iM r n s) = zX n (oF r n) (gU r n) (AO s) := by
 delta AO iM zX
 simp only [nQ]
theorem xD (r : Nat → Nat) : AO (aN r 4) = EN (oF r 2) (oF r 3) (oF r 4) (gU r 1) (gU r 2) (gU r 3) (gU r 4) := by
 show AO (iM r 4 (iM r 3 (iM r 2 (iM r 1 _)))) = _
 rw [gw, gw, gw, gw]
 have h : oF r 1 = 0 := Nat.mod_one _
 rw [h]
 rfl
noncomputable def GL (st : tI) (n : Net) (b : Bk) (tr : Nat × Nat × List Nat) : Bool :=
 tr.1 == n.wh && tr.2.1 == n.mx && Nat.ble n.dp 14 && (b.map Prod.fst == st.1.wires) && (b.all fun q => Nat.ble q.1 4 && Nat.ble q.2 40) && Nat.ble b.length 100 && ((b.map fun q => q.2 * q.2).sum == n.wh * n.mx) &&
  Nat.ble n.wh 1000 && Nat.ble n.mx 1000 && tr.2.2.length == 5 && ([0, 1, 2, 3, 4].all fun i => b.lookup i == some (tr.2.2.getD i 0)) && tr.2.2.all fun c => Nat.ble c 1000
noncomputable def Fi (st : tI) : Bool :=
 (toks false st.1).all bS && Nat.ble (toks false st.1).length 100 && (fJ (toks false st.1) 0 == some 0) &&
  match i6 (toks false st.1 ++ [0]) ([], []) with
  | some (_, [n]) => (match fg n n.wh [] with
   | some b => GL st n b (ft st.2.1 st.2.2)
   | none => false)
  | _ => false
noncomputable def Hm (a b c : Nat) : Bool := [false, true].all fun s1 => [false, true].all fun s2 => [false, true].all fun s3 => [false, true].all fun s4 => Fi (EN a b c s1 s2 s3 s4)
noncomputable def nn (a b : Nat) : Bool := [0, 1, 2, 3].all fun c => Hm a b c
theorem BP : nn 0 0 = true := by decide +kernel
theorem BO : nn 0 1 = true := by decide +kernel
theorem BN : nn 0 2 = true := by decide +kernel
theorem BM : nn 1 0 = true := by decide +kernel
theorem BL : nn 1 1 = true := by decide +kernel
theorem BK : nn 1 2 = true := by decide +kernel
theorem xQ {a b c : Nat} (ha : a ≤ 1) (hb : b ≤ 2) (hc : c ≤ 3) (s1 s2 s3 s4 : Bool) : Fi (EN a b c s1 s2 s3 s4) = true := by
 have h : nn a b = true := by
  rcases a with _ | _ | a
  ·rcases b with _ | _ | _ | b
   ·exact BP
   ·exact BO
   ·exact BN
   ·lia
  ·rcases b with _ | _ | _ | b
   ·exact BM
   ·exact BL
   ·exact BK
   ·lia
  ·lia
 have hm : ∀ s : Bool, s ∈ [false, true] := by decide
 have h := List.all_eq_true.mp h c (by simp only [List.mem_cons, List.not_mem_nil, or_false]; lia)
 have h := List.all_eq_true.mp h s1 (hm s1)
 have h := List.all_eq_true.mp h s2 (hm s2)
 have h := List.all_eq_true.mp h s3 (hm s3)
 exact List.all_eq_true.mp h s4 (hm s4)
end
section
theorem p7 : ∀ m ∈ rmkT, lT m = true ∧ m.length ≤ 5 := by decide
theorem yD (r : Nat → Nat) (i : Nat) (h : 4 < i) : bf r i = [] := by
 unfold bf
 have h0 : (i == 0) = false := by rw [beq_eq_false_iff_ne]; lia
 have h5 : nmT.length = 5 := rfl
 rw [h0]
 simp only [Bool.false_eq_true, if_false]
 rw [List.getD_eq_getElem?_getD (l := nmT), List.getElem?_eq_none (by lia)]
 rfl
theorem fP (r : Nat → Nat) (i : Nat) : lT (gM r i) = true ∧ (gM r i).length ≤ 7 := by
 have hr := p7 _ (wf r i)
 unfold gM
 by_cases h : i ≤ 4
 ·have hf := cL i (Nat.lt_succ_of_le h) _ (gf r i h)
  refine ⟨?_, by rw [List.length_append]; exact Nat.add_le_add hf.2.2.1 hr.2⟩
  have h1 := hf.2.2.2.1
  have h2 := hf.2.2.2.2.1
  generalize bf r i = s at *
  cases s with
  | nil => exact absurd rfl h2
  | cons c s => exact h1
 ·rw [yD r i (Nat.lt_of_not_le h)]
  exact ⟨hr.1, Nat.le_trans hr.2 (by decide)⟩
theorem ui {wd : Nat → List Nat} (h : ∀ i, (wd i).length ≤ 7) (c : Nat) : (dP wd c).length ≤ 7 := by
 unfold dP
 split
 ·exact h _
 ·split
  ·decide
  ·split
   ·decide
   ·split
    ·decide
    ·split
     ·decide
     ·decide
theorem jg {wd : Nat → List Nat} (h : ∀ i, (wd i).length ≤ 7) : ∀ ts : List Nat, (bc wd ts).length ≤ 7 * ts.length
 | [] => Nat.le_refl _
 | c :: ts => by
  show (dP wd c ++ bc wd ts).length ≤ _
  rw [List.length_append, List.length_cons, Nat.mul_succ, Nat.add_comm]
  exact Nat.add_le_add (jg h ts) (ui h c)
theorem Dn (r : Nat → Nat) : ∃ tx br cs ms n us b, D9 r tx br cs ms n us b := by
 have ho : ∀ n, oF r (n + 1) ≤ n := lS r
 have hok := xQ (ho 1) (ho 2) (ho 3) (gU r 1) (gU r 2) (gU r 3) (gU r 4)
 rw [← xD] at hok
 unfold Fi AO at hok
 simp only [kq, Bool.and_eq_true, Nat.ble_eq, beq_iff_eq, List.all_eq_true] at hok
 obtain ⟨⟨⟨h1, h2⟩, h3⟩, h4⟩ := hok
 have I := uR r 4
 have hn1 : ∀ i, i ≤ 4 → i4 (bf r i) = true := fun i hi => (cL i (Nat.lt_succ_of_le hi) _ (gf r i hi)).2.1
 have hnA : ∀ i, i ≤ 4 → bf r i ∈ nmA := fun i hi => (cL i (Nat.lt_succ_of_le hi) _ (gf r i hi)).1
 have hrm : ∀ i, i ≤ 4 → BC r i ∈ rmkT := fun i _ => wf r i
 have hnl : ∀ i, (bf r i).length ≤ 7 := fun i => Nat.le_trans (by unfold gM; rw [List.length_append]; exact Nat.le_add_right _ _) (fP r i).2
 have hw : gM r = fun i => bf r i ++ BC r i := rfl
 have htx := km (gM r) (aN r 4).1 false
 generalize hts : toks false (aN r 4).1 = ts at *
 split at h4
 ·rename_i ms n hnet
  split at h4
  ·rename_i b hb
   unfold GL at h4
   simp only [Bool.and_eq_true, Nat.ble_eq, beq_iff_eq, List.all_eq_true, iH] at h4
   obtain ⟨⟨⟨⟨⟨⟨⟨⟨⟨⟨⟨k1, k2⟩, k3⟩, k4⟩, k5⟩, k6⟩, k7⟩, k8⟩, k9⟩, k10⟩, k11⟩, k12⟩ := h4
   have hl1 : (bc (gM r) ts).length ≤ 890 := Nat.le_trans (jg (fun i => (fP r i).2) ts) (Nat.le_trans (Nat.mul_le_mul_left 7 h2) (by decide))
   have hl2 : (bc (bf r) ts).length ≤ 890 := Nat.le_trans (jg hnl ts) (Nat.le_trans (Nat.mul_le_mul_left 7 h2) (by decide))
   have ht7 : ∀ c ∈ ts ++ [7], bS c = true := fun c hc => (List.mem_append.mp hc).elim (h1 c) fun hc => by rw [List.mem_singleton.mp hc]; rfl
   have ht87 : ∀ c ∈ 8 :: (ts ++ [7]), bS c = true := fun c hc => (List.mem_cons.mp hc).elim (fun hc => by rw [hc]; rfl) (ht7 c)
   have hf7 : bc (bf r) ts ++ [40] = bc (bf r) (ts ++ [7]) := by rw [jh]; rfl
   have hf87 : 41 :: (bc (bf r) ts ++ [40]) = bc (bf r) (8 :: (ts ++ [7])) := by rw [hf7]; rfl
   refine ⟨bc (gM r) ts, bc (bf r) ts, ts ++ [0], ms, n, (ft (aN r 4).2.1 (aN r 4).2.2).2.2, b, ?_⟩
   exact {
    nm := Db r
    sw := fun i hi => (cL i (Nat.lt_succ_of_le hi) _ (gf r i hi)).2.2.2.2.2
    good := I.lead.good (fun i => (fP r i).1) (fun i => Nat.le_trans (fP r i).2 (by decide)) (by decide)
    txt := htx
    tlen := hl1
    blen := hl2
    bare := iK (fun i hi => i0 (hn1 i hi)) hrm ts h1
    chk1 := by rw [hw, jp hn1 hrm ts h1, h3]; rfl
    chk2 := by rw [hf7, jq hn1 _ ht7, gC, h3]; rfl
    chk3 := by rw [hf87, jq hn1 _ ht87]; rfl
    cut := s6 hnA hn1 ts h1
    clen := by rw [List.length_append, List.length_singleton]; lia
    net := hnet
    tried := by rw [← k1, ← k2]
    send := hb
    dp := k3
    keys := k4
    b4 := fun q hq => k5 q hq
    blen2 := k6
    sq := k7
    small := ⟨k8, k9⟩
    ulen := k10
    uval := fun i hi => k11 i (by simp only [List.mem_cons, List.not_mem_nil, or_false]; lia)
    usm := fun c hc => k12 c hc }
  ·exact eY h4
 ·exact eY h4
theorem qa : wY := fun l hl => by
 obtain ⟨tx, br, cs, ms, n, us, b, H⟩ := Dn (af l)
 exact DU l hl H
theorem the_law : PySem.Challenge.rw_sh0075_01.Holds := yU qa
end
end Mine
theorem PySem.Challenge.cw_sh0075_01_holds : PySem.Challenge.rw_sh0075_01.Holds :=
  Mine.the_law
