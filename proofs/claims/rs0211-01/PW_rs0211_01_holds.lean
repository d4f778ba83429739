import PyProof.Rows.All
import Wide.All
import OpenK.AllK
import Wide.FinOn
import Lean
import PySem.Challenge.RW_rs0211_01
set_option Elab.async false
set_option maxRecDepth 100000
set_option linter.all false
set_option tactic.hygienic false
set_option backward.match.sparseCases false

namespace Mine.Internal

section
theorem s_l {x c n : Nat} (h : x + c < n) : x < n := Nat.lt_of_le_of_lt (Nat.le_add_right x c) h
theorem s_r {x a n : Nat} (h : x + a < n) : a < n := Nat.lt_of_le_of_lt (Nat.le_add_left a x) h
theorem s_g {x a n : Nat} (h : x + a < n + 1) (e : 0 < x) : a < n := Nat.lt_of_lt_of_le (Nat.lt_add_of_pos_left e) (Nat.le_of_lt_succ h)
theorem s_p {x y : Nat} (h : 0 < x) : 0 < x + y := Nat.lt_of_lt_of_le h (Nat.le_add_right x y)
theorem q1 {a n : Nat} (h : 1 + a < n + 1) : a < n := s_g h Nat.one_pos
theorem q2 {a x n : Nat} (h : 1 + x + a < n + 1) : a < n := s_g h (s_p Nat.one_pos)
theorem q3 {a x y n : Nat} (h : 1 + x + y + a < n + 1) : a < n := s_g h (s_p (s_p Nat.one_pos))
theorem q4 {a x y z n : Nat} (h : 1 + x + y + z + a < n + 1) : a < n := s_g h (s_p (s_p (s_p Nat.one_pos)))
theorem n_end {n i : Nat} (h : n - i = 0) (e : i <= n) : i = n := Nat.le_antisymm e (Nat.sub_eq_zero_iff_le.mp h)
theorem n_lt {n i k : Nat} (h : n - i = k + 1) : i < n := Nat.lt_of_sub_eq_succ h
theorem n_ex {n i : Nat} (h : i < n) : ∃ j, n - i = j + 1 := ⟨n - i - 1, (Nat.sub_add_cancel (Nat.sub_pos_of_lt h)).symm⟩
theorem n_nx {n i k : Nat} (h : n - i = k + 1) : n - (i + 1) = k := by rw [Nat.sub_succ, h]; rfl
theorem n_sum {n i j : Nat} (h : n - i = j + 1) : i + j + 1 = n := by
  have e := Nat.add_sub_cancel' (Nat.le_of_lt (n_lt h)); rw [h] at e; exact e
theorem n_z {i j n : Nat} (h : i + j = n) (e : i < n) : ∃ m, j = m + 1 := by
  cases j with
  | zero => cases h; exact absurd e (Nat.lt_irrefl _)
  | succ j => exact ⟨j, rfl⟩
theorem n_sh {i j n : Nat} (h : i + (j + 1) = n) : i + 1 + j = n := by rw [Nat.add_assoc, Nat.add_comm 1 j]; exact h
theorem n_sub {n i : Nat} (h : i < n) : n - i = n - (i + 1) + 1 := (Nat.sub_add_cancel (Nat.sub_pos_of_lt h)).symm
theorem n_one (n : Nat) : n - 1 + min 1 n = n := by
  cases n with
  | zero => rfl
  | succ n => rw [Nat.min_eq_left (Nat.succ_le_succ (Nat.zero_le _))]; rfl
theorem c34 {c : Nat} (h : c = 3 \/ c = 4) : c <= 4 := by rcases h with h | h <;> rw [h] <;> decide
theorem k1000 {k n : Nat} (h : k <= n) (e : n < 1000) : 0 <= (k : Int) /\ (k : Int) < 1000 := ⟨Int.natCast_nonneg k, Int.ofNat_lt.mpr (Nat.lt_of_le_of_lt h e)⟩
end

section
open PySem

theorem ns {α : Type} {p : α} {G : Prop} (h : Option.none = some p) : G := nomatch h
theorem ite_s {α : Type} {c : Prop} [Decidable c] {a p : α} (h : (if c then some a else Option.none) = some p) : c /\ a = p := by
  by_cases k : c
  . rw [if_pos k] at h; exact ⟨k, Option.some.inj h⟩
  . rw [if_neg k] at h; exact ns h
theorem ite_n {α : Type} {c : Prop} [Decidable c] {o : Option α} {p : α} (h : (if c then Option.none else o) = some p) : ¬ c /\ o = some p := by
  by_cases k : c
  . rw [if_pos k] at h; exact ns h
  . rw [if_neg k] at h; exact ⟨k, h⟩

theorem ite_o {α : Type} {c : Prop} [Decidable c] {o : Option α} {p : α} (h : (if c then o else Option.none) = some p) : c /\ o = some p := by
  by_cases k : c
  . rw [if_pos k] at h; exact ⟨k, h⟩
  . rw [if_neg k] at h; exact ns h
theorem bs {G : Prop} (h : false = true) : G := nomatch h
theorem cps {P : Prop} (h : ∀ U : Prop, (P -> U) -> U) : P := h P id
theorem wpq {α : Type} {M : PySem.Model} {A : PySem.Around} {t t' : PySem.Sem α} {Q : α -> PySem.Shared -> Prop} {E : PySem.Value -> PySem.Shared -> Prop} {s : PySem.Shared} (e : t = t') (h : PySem.wpAny M A t' Q E s) : PySem.wpAny M A t Q E s := e ▸ h

inductive PV where
  | none
  | bool (b : Bool)
  | int (i : Int)
  | str (s : Str)
  | typ (n : String)
  | tup (l : List PV)
  | lst (l : List PV)
  | rng (a b c : Int)
  deriving Inhabited

inductive Slot where
  | pv (p : PV)
  | own (l : List PV)

noncomputable def Slot.val : Slot -> PV
  | .pv p => p
  | .own l => .lst l

noncomputable abbrev Loc := Str -> Option Slot

noncomputable def up (x : Str) (sl : Slot) (r : Loc) : Loc := fun y => if y = x then some sl else r y

structure Orc where
  fuel : Nat
  fn : Str -> List PV -> Option PV
  gl : Str -> Option PV

noncomputable abbrev big : Int := 9223372036854775808
noncomputable abbrev wide : Nat := 1048576

noncomputable def truth : PV -> Option Bool
  | .none => some false
  | .bool b => some b
  | .int i => some (i != 0)
  | .str s => if s.length <= wide then some (s.length != 0) else Option.none
  | _ => Option.none

noncomputable def small (a : Int) : Bool := decide (-big < a) && decide (a < big)

noncomputable def tiny (a : Int) : Bool := decide (-1099511627776 < a) && decide (a < 1099511627776)

noncomputable def bin : Operator -> PV -> PV -> Option PV
  | .Add, .int a, .int b => some (.int (a + b))
  | .Sub, .int a, .int b => some (.int (a - b))
  | .Mult, .int a, .int b => if small a && small b then some (.int (a * b)) else Option.none
  | .FloorDiv, .int a, .int b => if b = 0 then Option.none else if small b then some (.int (a.fdiv b)) else Option.none
  | .Mod, .int a, .int b => if b = 0 then Option.none else some (.int (a.fmod b))
  | .Pow, .int a, .int b => if small a && decide (0 <= b) && decide (b < 1000) then some (.int (a ^ b.toNat)) else Option.none
  | .Add, .str a, .str b => if a.length + b.length <= wide then some (.str (a ++ b)) else Option.none
  | .Add, .lst a, .lst b => if a.length + b.length <= wide then some (.lst (a ++ b)) else Option.none
  | _, _, _ => Option.none

noncomputable def ints? : List PV -> Option (List Int)
  | [] => some []
  | .int i :: r => (ints? r).map (i :: ·)
  | _ => Option.none

noncomputable def peqs (f : PV -> PV -> Option Bool) : List PV -> List PV -> Option Bool
  | [], [] => some true
  | a :: r, b :: t => do
    let x <- f a b
    let y <- peqs f r t
    some (x && y)
  | _, _ => Option.none
noncomputable def peq : Nat -> PV -> PV -> Option Bool
  | _, .int a, .int b => some (a == b)
  | _, .str a, .str b => some (a == b)
  | n + 1, .lst a, .lst b => if a.length = b.length then peqs (peq n) a b else some false
  | _, _, _ => Option.none

noncomputable def leInts : List Int -> List Int -> Bool
  | [], _ => true
  | _ :: _, [] => false
  | a :: r, b :: t => if a = b then leInts r t else decide (a <= b)

theorem leInts_n {l : List Int} : leInts [] l = true := rfl
theorem leInts_z {a : Int} {l : List Int} : leInts (a :: l) [] = false := rfl
theorem leInts_c {a b : Int} {r t : List Int} : leInts (a :: r) (b :: t) = if a = b then leInts r t else decide (a <= b) := rfl
noncomputable def strIn (x y : Str) : Bool := Txt.contains y x

noncomputable def cmp : CmpOp -> PV -> PV -> Option Bool
  | .Lt, .int a, .int b => some (decide (a < b))
  | .LtE, .int a, .int b => some (decide (a <= b))
  | .Gt, .int a, .int b => some (decide (b < a))
  | .Eq, .bool a, .bool b => some (a == b)
  | .NotEq, .bool a, .bool b => some (!(a == b))
  | .Eq, a, b => peq 8 a b
  | .NotEq, a, b => (peq 8 a b).map (!·)
  | .LtE, .lst a, .lst b => match ints? a, ints? b with
    | some a, some b => some (leInts a b)
    | _, _ => Option.none
  | .Is, .bool a, .bool b => some (a == b)
  | .IsNot, .bool a, .bool b => some (!(a == b))
  | .Is, .none, .none => some true
  | .IsNot, .none, .none => some false
  | .Is, .int _, .none => some false
  | .IsNot, .int _, .none => some true
  | .Is, .str _, .none => some false
  | .IsNot, .str _, .none => some true
  | .IsNot, .typ a, .typ b => some (!(a == b))
  | .In, .int a, .lst b => (ints? b).map (·.contains a)
  | .NotIn, .int a, .lst b => (ints? b).map (!·.contains a)
  | .In, .str a, .str b => some (strIn a b)
  | .NotIn, .str a, .str b => some (!strIn a b)
  | _, _, _ => Option.none

noncomputable def rngList (a b c : Int) : List PV :=
  (List.range (Builtin.Range.rangeSize a b c).toNat).map fun (i : Nat) => PV.int (a + c * (i : Int))

noncomputable def iterOf : PV -> Option (List PV)
  | .lst l => some l
  | .tup l => some l
  | .str s => some (s.cps.toList.map fun c => .str ⟨#[c]⟩)
  | .rng a b c => some (rngList a b c)
  | _ => Option.none

noncomputable def item (n : Nat) (i : Int) : Option Nat := seqIndex? i n

noncomputable def subsc : PV -> PV -> Option PV
  | .lst l, .int i => if small i then (item l.length i).bind (l[·]?) else Option.none
  | .tup l, .int i => if small i then (item l.length i).bind (l[·]?) else Option.none
  | .str s, .int i => if small i then (item s.length i).bind fun k => (s.cps[k]?).map fun c => .str ⟨#[c]⟩ else Option.none
  | _, _ => Option.none

noncomputable def bound? : PV -> Option (Option Int)
  | .none => some Option.none
  | .int i => some (some i)
  | _ => Option.none

noncomputable def cut {α : Type} (x : List α) (l u : Option Int) : List α := (x.drop (l.elim 0 (clipAt x.length))).take (u.elim x.length (clipAt x.length) - l.elim 0 (clipAt x.length))

noncomputable def pick {α : Type} (x : List α) (l u st : Option Int) : List α :=
  (sliceRange (sliceBounds l u st x.length).1 (sliceBounds l u st x.length).2.1 (sliceBounds l u st x.length).2.2).filterMap (x[·]?)

noncomputable def slice (o l u st : PV) : Option PV :=
  match bound? l, bound? u, bound? st with
  | some _, some _, Option.none => Option.none
  | some l, some u, some Option.none => match o with
    | .lst x => if x.length <= wide then some (.lst (cut x l u)) else Option.none
    | .str x => if x.length <= wide then some (.str ⟨(cut x.cps.toList l u).toArray⟩) else Option.none
    | _ => Option.none
  | some l, some u, some (some k) => if k = 0 then Option.none else match o with
    | .lst x => if x.length <= wide then some (.lst (pick x l u (some k))) else Option.none
    | _ => Option.none
  | _, _, _ => Option.none

noncomputable def minInts : List Int -> Option Int
  | [] => Option.none
  | [a] => some a
  | a :: r => (minInts r).map fun m => if a < m then a else m

theorem minInts_c {a b : Int} {r : List Int} : minInts (a :: b :: r) = (minInts (b :: r)).map fun m => if a < m then a else m := rfl
noncomputable def strs? : List PV -> Option (List Str)
  | [] => some []
  | .str i :: r => (strs? r).map (i :: ·)
  | _ => Option.none

noncomputable def joinAll (l : List Str) : Str := Txt.join ⟨#[]⟩ l

inductive BF where
  | len | range | list | min | sum | abs | chr | ord | type

noncomputable def bname (f : Str) : Option BF :=
  if f = "len" then some .len else if f = "range" then some .range else if f = "list" then some .list else if f = "min" then some .min else
  if f = "sum" then some .sum else if f = "abs" then some .abs else if f = "chr" then some .chr else if f = "ord" then some .ord else if f = "type" then some .type else Option.none

noncomputable def bf (f : BF) (as : List PV) : Option PV :=
  match f, as with
  | .len, [.lst l] => if l.length <= wide then some (.int l.length) else Option.none
  | .len, [.str s] => if s.length <= wide then some (.int s.length) else Option.none
  | .range, [.int b] => if tiny b then some (.rng 0 b 1) else Option.none
  | .range, [.int a, .int b] => if tiny a && tiny b then some (.rng a b 1) else Option.none
  | .range, [.int a, .int b, .int c] => if tiny a && tiny b && tiny c && decide (c ≠ 0) then some (.rng a b c) else Option.none
  | .list, [.rng a b c] => if (rngList a b c).length <= wide then some (.lst (rngList a b c)) else Option.none
  | .min, [.int a, .int b] => some (.int (if b < a then b else a))
  | .min, [.lst l] => (ints? l).bind fun l => (minInts l).map .int
  | .sum, [.lst l] => (ints? l).map fun l => .int l.sum
  | .abs, [.int a] => some (.int (if a < 0 then -a else a))
  | .chr, [.int a] => if 0 <= a /\ a <= 1114111 then some (.str ⟨#[a.toNat]⟩) else Option.none
  | .ord, [.str s] => if s.length = 1 then some (.int (s.cps.getD 0 0 : Nat)) else Option.none
  | .type, [.int _] => some (.typ "int")
  | _, _ => Option.none

inductive BM where
  | lower | upper | join | count
noncomputable def mname (f : Str) : Option BM :=
  if f = "lower" then some .lower else if f = "upper" then some .upper else if f = "join" then some .join else if f = "count" then some .count else Option.none

noncomputable def bmeth (m : BM) (o : PV) (as : List PV) : Option PV :=
  match m, o, as with
  | .lower, .str s, [] => if s.length <= 1000 then some (.str (Txt.lower s)) else Option.none
  | .upper, .str s, [] => if s.length <= 1000 then some (.str (Txt.upper s)) else Option.none
  | .join, .str s, [.lst l] => if s = ⟨#[]⟩ then (strs? l).bind fun l => if (l.map (·.length)).sum <= wide then some (.str (joinAll l)) else Option.none else Option.none
  | .count, .lst l, [p] => if l.length <= wide then ((l.mapM fun q => peq 8 q p).map fun bs => .int (bs.countP id : Nat)) else Option.none
  | _, _, _ => Option.none


noncomputable def Orc.call (o : Orc) (f : Str) (as : List PV) : Option PV :=
  match bname f with
  | some b => bf b as
  | Option.none => o.fn f as

noncomputable def kd (sc : Scope) (x : Str) : Option NameKind := sc.names.lookup x

noncomputable def look (o : Orc) (sc : Scope) (r : Loc) (x : Str) : Option PV :=
  match kd sc x with
  | some .local | some .cell | some .free => (r x).map Slot.val
  | some .globalImplicit => o.gl x
  | _ => Option.none

noncomputable def okComp (sc s : Scope) : Bool := s.kind == .function && s.names.all fun x => x.1 != "__debug__" && x.1 != "__classdict__" && kd s x.1 == some x.2 && (x.2 != .free || kd sc x.1 == some .cell || kd sc x.1 == some .free)

noncomputable def under (sc : Scope) (r : Loc) : Loc := fun x => match kd sc x with
  | some .free => r x
  | _ => Option.none

noncomputable def constPV : Const -> Option PV
  | .none => some .none
  | .bool b => some (.bool b)
  | .int i => some (.int i)
  | .str s => some (.str s)
  | _ => Option.none

noncomputable def storable (sc : Scope) (x : Str) : Bool := match kd sc x with
  | some .local | some .cell => true
  | _ => false

noncomputable def bindTs (sc : Scope) : List Expr -> List PV -> Loc -> Option Loc
  | [], [], r => some r
  | .Name x _ :: ts, p :: ps, r => if storable sc x = true then bindTs sc ts ps (up x (.pv p) r) else Option.none
  | _, _, _ => Option.none

noncomputable def bindT (sc : Scope) : Expr -> PV -> Loc -> Option Loc
  | .Name x _, p, r => if storable sc x = true then some (up x (.pv p) r) else Option.none
  | .Tuple ts _ _, .tup ps, r => bindTs sc ts ps r
  | _, _, _ => Option.none

noncomputable def unbound (r : Loc) : Expr -> Bool
  | .Name x _ => (r x).isNone
  | .Tuple ts _ _ => ts.all fun t => match t with
    | .Name x _ => (r x).isNone
    | _ => false
  | _ => false

noncomputable def turns (f : PV -> Option (List PV)) : List PV -> Option (List PV)
  | [] => some []
  | p :: ps => do
    let a <- f p
    let b <- turns f ps
    some (a ++ b)

mutual
noncomputable def escB (t : Bool) : Expr -> List Str
  | .Name x _ => cond t [x] []
  | .IfExp _ a b _ => escB true a ++ escB true b
  | .BoolOp _ vs _ => escL vs
  | .List es _ => escL es
  | .Tuple es _ _ => escL es
  | .ListComp elt _ _ _ => escB true elt
  | .Call f as _ _ => (match f with
    | .Name f _ => if (bname f).isSome then [] else escL as
    | _ => [])
  | .Subscript e _ _ => escB false e
  | .BinOp a _ b _ => escB false a ++ escB false b
  | _ => []
noncomputable def escL : List Expr -> List Str
  | [] => []
  | e :: r => escB true e ++ escL r
end
noncomputable def esc (e : Expr) : List Str := escB true e
noncomputable def esc.esc' (e : Expr) : List Str := escB false e
noncomputable def esc.escs (es : List Expr) : List Str := escL es

noncomputable def lstOf (l : Option (List PV)) : Option PV := l.bind fun l => if l.length <= wide then some (.lst l) else Option.none
noncomputable def noEsc (e : Expr) : Bool := (esc.esc' e).isEmpty

noncomputable def methBase : Expr -> Bool
  | .Name _ _ => true
  | .Constant _ _ _ => true
  | .Subscript _ _ _ => true
  | _ => false
noncomputable def methOk (e : Expr) (n : Nat) (a b : Nat) : Bool := methBase e && decide (n < 30) && a == b

noncomputable def compOk (sc s : Scope) (it : Expr) (a : Int) (gs : List Comprehension) : Bool := decide (a = 0) && okComp sc s && (gs.all fun g => g.is_async == 0) && noEsc it

mutual
noncomputable def ev (o : Orc) (sc : Scope) : Expr -> Loc -> Option PV
  | .Constant c _ _, _ => constPV c
  | .Name x _, r => look o sc r x
  | .BoolOp op vs _, r => evBool o sc op vs r
  | .BinOp a op b _, r => do
    let x <- ev o sc a r
    let y <- ev o sc b r
    bin op x y
  | .UnaryOp .Not a _, r => do
    let x <- ev o sc a r
    let b <- truth x
    some (.bool (!b))
  | .UnaryOp .USub a _, r => do
    match <- ev o sc a r with
    | .int i => some (.int (-i))
    | _ => Option.none
  | .IfExp t a b _, r => do
    let x <- ev o sc t r
    if <- truth x then ev o sc a r else ev o sc b r
  | .List es _, r => if es.length <= 100 then (evs o sc es r).map .lst else Option.none
  | .Tuple es _ _, r => if es.length <= 100 then (evs o sc es r).map .tup else Option.none
  | .Compare a [op] [b] _, r => do
    let x <- ev o sc a r
    let y <- ev o sc b r
    let c <- cmp op x y
    some (.bool c)
  | .Compare a [op, op'] [b, c] _, r => do
    let x <- ev o sc a r
    let y <- ev o sc b r
    if <- cmp op x y then do
      let z <- ev o sc c r
      let c <- cmp op' y z
      some (.bool c)
    else some (.bool false)
  | .Call (.Name f _) as [] _, r => do
    let xs <- evs o sc as r
    if kd sc f = some .globalImplicit then o.call f xs else Option.none
  | .Call (.Attribute e m ap) as [] pos, r => do
    let x <- ev o sc e r
    let xs <- evs o sc as r
    if methOk e as.length ap.endLine pos.line = true then (mname m).bind fun k => bmeth k x xs else Option.none
  | .Subscript e (.Slice l u st _) _, r => do
    let x <- ev o sc e r
    let a <- evOpt o sc l r
    let b <- evOpt o sc u r
    let c <- evOpt o sc st r
    slice x a b c
  | .Subscript e i _, r => do
    let x <- ev o sc e r
    let y <- ev o sc i r
    subsc x y
  | .ListComp elt (⟨t, it, ifs, a⟩ :: gs) s _, r => do
    let x <- ev o sc it r
    let ps <- iterOf x
    if compOk sc s it a gs = true then lstOf (turns (fun p => do
      let r' <- bindT s t p (under s r)
      if <- evIfs o s ifs r' then evGens o s (ev o s elt) gs r' else some []) ps)
    else Option.none
  | _, _ => Option.none
noncomputable def evOpt (o : Orc) (sc : Scope) : Option Expr -> Loc -> Option PV
  | Option.none, _ => some .none
  | some e, r => ev o sc e r
noncomputable def evs (o : Orc) (sc : Scope) : List Expr -> Loc -> Option (List PV)
  | [], _ => some []
  | .Starred _ _ :: _, _ => Option.none
  | e :: es, r => do
    let x <- ev o sc e r
    let xs <- evs o sc es r
    some (x :: xs)
noncomputable def evBool (o : Orc) (sc : Scope) : BoolOp -> List Expr -> Loc -> Option PV
  | _, [], _ => Option.none
  | _, [e], r => ev o sc e r
  | op, e :: es, r => do
    let x <- ev o sc e r
    let b <- truth x
    match op, b with
    | .And, false => some x
    | .Or, true => some x
    | op, _ => evBool o sc op es r
noncomputable def evIfs (o : Orc) (sc : Scope) : List Expr -> Loc -> Option Bool
  | [], _ => some true
  | e :: es, r => do
    let x <- ev o sc e r
    if <- truth x then evIfs o sc es r else some false
noncomputable def evGens (o : Orc) (sc : Scope) (k : Loc -> Option PV) : List Comprehension -> Loc -> Option (List PV)
  | [], r => (k r).map ([·])
  | ⟨t, it, ifs, a⟩ :: gs, r => do
    let x <- ev o sc it r
    let ps <- iterOf x
    if a = 0 /\ unbound r t = true /\ noEsc it = true then turns (fun p => do
      let r' <- bindT sc t p r
      if <- evIfs o sc ifs r' then evGens o sc k gs r' else some []) ps
    else Option.none
end

noncomputable def frz (xs : List Str) (r : Loc) : Loc := fun y => if y ∈ xs then (r y).map (fun sl => .pv sl.val) else r y

inductive Out where
  | next (r : Loc)
  | ret (p : PV)

noncomputable def forF (f : PV -> Loc -> Option Out) : List PV -> Loc -> Option Out
  | [], r => some (.next r)
  | p :: ps, r => match f p r with
    | some (.next r') => forF f ps r'
    | o => o

theorem forF_r {f : PV -> Loc -> Option Out} {p : PV} {ps : List PV} {r : Loc} {y : Option Out} (e : f p r = y) : forF f (p :: ps) r = (match (generalizing := false) y with | some (.next r') => forF f ps r' | o => o) := by subst e; rfl

noncomputable def whileF (t : Loc -> Option Bool) (f : Loc -> Option Out) : Nat -> Loc -> Option Out
  | 0, _ => Option.none
  | n + 1, r => match t r with
    | some true => match f r with
      | some (.next r') => whileF t f n r'
      | o => o
    | some false => some (.next r)
    | Option.none => Option.none

noncomputable def fresh : Expr -> Bool
  | .List _ _ => true
  | .Call (.Name f _) _ _ _ => f == ("list" : Str)
  | _ => false

noncomputable def slotOf (e : Expr) (p : PV) : Slot := match fresh e, p with
  | true, .lst l => .own l
  | _, p => .pv p

noncomputable def emp : Expr -> Bool
  | .List [] _ => true
  | _ => false

noncomputable def bindEach (sc : Scope) : List Expr -> List Expr -> List PV -> Loc -> Option Loc
  | [], [], [], r => some r
  | .Name x _ :: ts, e :: es, p :: ps, r => if storable sc x = true then bindEach sc ts es ps (up x (if emp e = true then .own [] else .pv p) r) else Option.none
  | _, _, _, _ => Option.none

noncomputable def namesOf : List Expr -> List Str
  | .Name x _ :: ts => x :: namesOf ts
  | _ => []

noncomputable def augF : Operator -> Int -> Int -> Option Int
  | .Add, a, b => some (a + b)
  | .Sub, a, b => some (a - b)
  | _, _, _ => Option.none

noncomputable def assignF (o : Orc) (sc : Scope) : List Expr -> Expr -> Loc -> Option Loc
  | [.Tuple ts _ _], .Tuple es _ _, r => do
    let ps <- evs o sc es r
    if 100 < es.length then Option.none else
    if es.length = 2 \/ es.length = 3 then (if es.all (constantsAlone 8) = false /\ (namesOf ts).Nodup then bindTs sc ts ps (frz (esc.escs es) r) else Option.none) else
    bindEach sc ts es ps (frz (esc.escs es) r)
  | [.Tuple ts k q], e, r => do
    let p <- ev o sc e r
    bindT sc (.Tuple ts k q) p (frz (esc e) r)
  | [.Name x _], e, r => do
    let p <- ev o sc e r
    if storable sc x = true then some (up x (slotOf e p) (frz (esc e) r)) else Option.none
  | [.Name x _, .Name y _], e, r => do
    match <- ev o sc e r with
    | .int i => if storable sc x = true /\ storable sc y = true then some (up y (.pv (.int i)) (up x (.pv (.int i)) r)) else Option.none
    | _ => Option.none
  | [.Subscript (.Name x _) i _], e, r => do
    match <- ev o sc e r with
    | .int v => match <- ev o sc i r, r x with
      | .int k, some (.own l) => if 0 <= k /\ k < l.length /\ storable sc x = true /\ l.length <= wide then some (up x (.own (l.set k.toNat (.int v))) r) else Option.none
      | _, _ => Option.none
    | _ => Option.none
  | _, _, _ => Option.none

mutual
noncomputable def exec (o : Orc) (sc : Scope) : Stmt -> Loc -> Option Out
  | .Return (some e) _, r => (ev o sc e r).map .ret
  | .Assign ts e _, r => (assignF o sc ts e r).map .next
  | .AugAssign (.Name x _) op e _, r => do
    let a <- look o sc r x
    let b <- ev o sc e r
    match a, b with
    | .int a, .int b => (augF op a b).bind fun p => if storable sc x = true then some (.next (up x (.pv (.int p)) r)) else Option.none
    | _, _ => Option.none
  | .If t a b _, r => do
    let x <- ev o sc t r
    if <- truth x then execs o sc a r else execs o sc b r
  | .While t b [] _, r => whileF (fun r => (ev o sc t r).bind truth) (fun r => execs o sc b r) o.fuel r
  | .For t it b [] _, r => do
    let x <- ev o sc it r
    let ps <- iterOf x
    forF (fun p r => do
      let r' <- bindT sc t p r
      execs o sc b r') ps (frz (esc it) r)
  | .Expr (.Call (.Attribute (.Name x _) m ap) [e] [] pos) _, r => do
    let p <- ev o sc e r
    if m = "append" /\ storable sc x = true /\ x ∉ esc e /\ (ap.endLine == pos.line) = true then match r x with
      | some (.own l) => if l.length < wide then some (.next (up x (.own (l ++ [p])) (frz (esc e) r))) else Option.none
      | _ => Option.none
    else Option.none
  | _, _ => Option.none
noncomputable def execs (o : Orc) (sc : Scope) : List Stmt -> Loc -> Option Out
  | [], r => some (.next r)
  | s :: ss, r => match exec o sc s r with
    | some (.next r') => execs o sc ss r'
    | o => o
end

section
variable {o : Orc} {sc : Scope} {r : Loc} {p q : Pos}
theorem v_c {c : Const} {k : Nat} : ev o sc (.Constant c k p) r = constPV c := by rfl
theorem v_n {x : Str} : ev o sc (.Name x p) r = look o sc r x := by rfl
theorem v_bool {op : BoolOp} {vs : List Expr} : ev o sc (.BoolOp op vs p) r = evBool o sc op vs r := by rfl
theorem v_bin {a b : Expr} {op : Operator} : ev o sc (.BinOp a op b p) r = (do
    let x <- ev o sc a r
    let y <- ev o sc b r
    bin op x y) := by rfl
theorem v_not {a : Expr} : ev o sc (.UnaryOp .Not a p) r = (do
    let x <- ev o sc a r
    let b <- truth x
    some (.bool (!b))) := by rfl
theorem v_neg {a : Expr} : ev o sc (.UnaryOp .USub a p) r = (do
    match <- ev o sc a r with
    | .int i => some (.int (-i))
    | _ => Option.none) := by rfl
theorem v_if {t a b : Expr} : ev o sc (.IfExp t a b p) r = (do
    let x <- ev o sc t r
    if <- truth x then ev o sc a r else ev o sc b r) := by rfl
theorem v_list {es : List Expr} : ev o sc (.List es p) r = if es.length <= 100 then (evs o sc es r).map .lst else Option.none := by rfl
theorem v_tup {es : List Expr} {k : Nat} : ev o sc (.Tuple es k p) r = if es.length <= 100 then (evs o sc es r).map .tup else Option.none := by rfl
theorem v_cmp1 {a b : Expr} {op : CmpOp} : ev o sc (.Compare a [op] [b] p) r = (do
    let x <- ev o sc a r
    let y <- ev o sc b r
    let c <- cmp op x y
    some (.bool c)) := by rfl
theorem v_cmp2 {a b c : Expr} {op op' : CmpOp} : ev o sc (.Compare a [op, op'] [b, c] p) r = (do
    let x <- ev o sc a r
    let y <- ev o sc b r
    if <- cmp op x y then do
      let z <- ev o sc c r
      let c <- cmp op' y z
      some (.bool c)
    else some (.bool false)) := by rfl
theorem v_call {f : Str} {as : List Expr} : ev o sc (.Call (.Name f q) as [] p) r = (do
    let xs <- evs o sc as r
    if kd sc f = some .globalImplicit then o.call f xs else Option.none) := by rfl
theorem v_meth {e : Expr} {m : Str} {as : List Expr} : ev o sc (.Call (.Attribute e m q) as [] p) r = (do
    let x <- ev o sc e r
    let xs <- evs o sc as r
    if methOk e as.length q.endLine p.line = true then (mname m).bind fun k => bmeth k x xs else Option.none) := by rfl
theorem v_slc {e : Expr} {l u st : Option Expr} : ev o sc (.Subscript e (.Slice l u st q) p) r = (do
    let x <- ev o sc e r
    let a <- evOpt o sc l r
    let b <- evOpt o sc u r
    let c <- evOpt o sc st r
    slice x a b c) := by rfl
theorem v_sub {e i : Expr} (h : ∀ l u st q, i = .Slice l u st q -> False) : ev o sc (.Subscript e i p) r = (do
    let x <- ev o sc e r
    let y <- ev o sc i r
    subsc x y) := by cases i <;> first | rfl | exact (h _ _ _ _ rfl).elim
theorem v_comp {elt t it : Expr} {ifs : List Expr} {a : Int} {gs : List Comprehension} {s : Scope} : ev o sc (.ListComp elt (⟨t, it, ifs, a⟩ :: gs) s p) r = (do
    let x <- ev o sc it r
    let ps <- iterOf x
    if compOk sc s it a gs = true then lstOf (turns (fun p => do
      let r' <- bindT s t p (under s r)
      if <- evIfs o s ifs r' then evGens o s (ev o s elt) gs r' else some []) ps)
    else Option.none) := by rfl
theorem v_star {e : Expr} : ev o sc (.Starred e p) r = Option.none := by rfl
theorem v_set {es : List Expr} {k : Nat} : ev o sc (.Set es k p) r = Option.none := by rfl
theorem v_setc {e : Expr} {gs : List Comprehension} {s : Scope} : ev o sc (.SetComp e gs s p) r = Option.none := by rfl
theorem v_dictc {e e' : Expr} {gs : List Comprehension} {s : Scope} : ev o sc (.DictComp e e' gs s p) r = Option.none := by rfl
theorem v_kw {f : Expr} {as : List Expr} {k : Keyword} {ks : List Keyword} : ev o sc (.Call f as (k :: ks) p) r = Option.none := by cases f <;> rfl
theorem v_comp0 {e : Expr} {s : Scope} : ev o sc (.ListComp e [] s p) r = Option.none := by rfl
theorem v_o0 : evOpt o sc Option.none r = some .none := by rfl
theorem v_o1 {e : Expr} : evOpt o sc (some e) r = ev o sc e r := by rfl
theorem v_s0 : evs o sc [] r = some [] := by rfl
theorem v_ss {e : Expr} {es : List Expr} : evs o sc (.Starred e p :: es) r = Option.none := by rfl
theorem v_s1 {e : Expr} {es : List Expr} (h : ∀ x q, e = .Starred x q -> False) : evs o sc (e :: es) r = (do
    let x <- ev o sc e r
    let xs <- evs o sc es r
    some (x :: xs)) := by cases e <;> first | rfl | exact (h _ _ rfl).elim
theorem v_b0 {op : BoolOp} : evBool o sc op [] r = Option.none := by rfl
theorem v_b1 {op : BoolOp} {e : Expr} : evBool o sc op [e] r = ev o sc e r := by rfl
theorem v_b2 {op : BoolOp} {e e' : Expr} {es : List Expr} : evBool o sc op (e :: e' :: es) r = (do
    let x <- ev o sc e r
    let b <- truth x
    match op, b with
    | .And, false => some x
    | .Or, true => some x
    | op, _ => evBool o sc op (e' :: es) r) := by rfl
theorem v_i0 : evIfs o sc [] r = some true := by rfl
theorem v_i1 {e : Expr} {es : List Expr} : evIfs o sc (e :: es) r = (do
    let x <- ev o sc e r
    if <- truth x then evIfs o sc es r else some false) := by rfl
theorem v_g0 {k : Loc -> Option PV} : evGens o sc k [] r = (k r).map ([·]) := by rfl
theorem v_g1 {k : Loc -> Option PV} {t it : Expr} {ifs : List Expr} {a : Int} {gs : List Comprehension} : evGens o sc k (⟨t, it, ifs, a⟩ :: gs) r = (do
    let x <- ev o sc it r
    let ps <- iterOf x
    if a = 0 /\ unbound r t = true /\ noEsc it = true then turns (fun p => do
      let r' <- bindT sc t p r
      if <- evIfs o sc ifs r' then evGens o sc k gs r' else some []) ps
    else Option.none) := by rfl
noncomputable def isStar : Expr -> Bool
  | .Starred _ _ => true
  | _ => false
noncomputable def isSlc : Expr -> Bool
  | .Slice _ _ _ _ => true
  | _ => false
noncomputable def isTup : Expr -> Bool
  | .Tuple _ _ _ => true
  | _ => false
theorem v_s2 {e : Expr} {es : List Expr} (h : isStar e = false) : evs o sc (e :: es) r = (do
    let x <- ev o sc e r
    let xs <- evs o sc es r
    some (x :: xs)) := v_s1 fun x q e => by subst e; cases h
theorem v_su2 {e i : Expr} (h : isSlc i = false) : ev o sc (.Subscript e i p) r = (do
    let x <- ev o sc e r
    let y <- ev o sc i r
    subsc x y) := v_sub fun l u st q e => by subst e; cases h
theorem w_ret {e : Expr} : Internal.exec o sc (.Return (some e) p) r = (ev o sc e r).map .ret := by rfl
theorem w_asg {ts : List Expr} {e : Expr} : Internal.exec o sc (.Assign ts e p) r = (assignF o sc ts e r).map .next := by rfl
theorem w_aug {x : Str} {op : Operator} {e : Expr} : Internal.exec o sc (.AugAssign (.Name x q) op e p) r = (do
    let a <- look o sc r x
    let b <- ev o sc e r
    match a, b with
    | .int a, .int b => (augF op a b).bind fun p => if storable sc x = true then some (.next (up x (.pv (.int p)) r)) else Option.none
    | _, _ => Option.none) := by rfl
theorem w_if {t : Expr} {a b : List Stmt} : Internal.exec o sc (.If t a b p) r = (do
    let x <- ev o sc t r
    if <- truth x then Internal.execs o sc a r else Internal.execs o sc b r) := by rfl
theorem w_while {t : Expr} {b : List Stmt} : Internal.exec o sc (.While t b [] p) r = whileF (fun r => (ev o sc t r).bind truth) (fun r => Internal.execs o sc b r) o.fuel r := by rfl
theorem w_for {t it : Expr} {b : List Stmt} : Internal.exec o sc (.For t it b [] p) r = (do
    let x <- ev o sc it r
    let ps <- iterOf x
    forF (fun p r => do
      let r' <- bindT sc t p r
      Internal.execs o sc b r') ps (frz (esc it) r)) := by rfl
theorem w_app {x m : Str} {e : Expr} {p1 p2 p3 p4 : Pos} : Internal.exec o sc (.Expr (.Call (.Attribute (.Name x p1) m p2) [e] [] p3) p4) r = (do
    let p <- ev o sc e r
    if m = "append" /\ storable sc x = true /\ x ∉ esc e /\ (p2.endLine == p3.line) = true then match r x with
      | some (.own l) => if l.length < wide then some (.next (up x (.own (l ++ [p])) (frz (esc e) r))) else Option.none
      | _ => Option.none
    else Option.none) := by rfl
theorem w_nil : Internal.execs o sc [] r = some (.next r) := by rfl
theorem w_cons {s : Stmt} {ss : List Stmt} : Internal.execs o sc (s :: ss) r = match Internal.exec o sc s r with
    | some (.next r') => Internal.execs o sc ss r'
    | o => o := by rfl
theorem a_tt {ts es : List Expr} {k k' : Nat} : assignF o sc [.Tuple ts k p] (.Tuple es k' q) r = (do
    let ps <- evs o sc es r
    if 100 < es.length then Option.none else
    if es.length = 2 \/ es.length = 3 then (if es.all (constantsAlone 8) = false /\ (namesOf ts).Nodup then bindTs sc ts ps (frz (esc.escs es) r) else Option.none) else
    bindEach sc ts es ps (frz (esc.escs es) r)) := by rfl
theorem a_t {ts : List Expr} {k : Nat} {e : Expr} (h : ∀ es j q, e = .Tuple es j q -> False) : assignF o sc [.Tuple ts k p] e r = (do
    let x <- ev o sc e r
    bindT sc (.Tuple ts k p) x (frz (esc e) r)) := by cases e <;> first | rfl | exact (h _ _ _ rfl).elim
theorem a_t2 {ts : List Expr} {k : Nat} {e : Expr} (h : isTup e = false) : assignF o sc [.Tuple ts k p] e r = (do
    let x <- ev o sc e r
    bindT sc (.Tuple ts k p) x (frz (esc e) r)) := a_t fun es j q e => by subst e; cases h
theorem a_n {x : Str} {e : Expr} : assignF o sc [.Name x p] e r = (do
    let p <- ev o sc e r
    if storable sc x = true then some (up x (slotOf e p) (frz (esc e) r)) else Option.none) := by rfl
theorem a_nn {x y : Str} {e : Expr} : assignF o sc [.Name x p, .Name y q] e r = (do
    match <- ev o sc e r with
    | .int i => if storable sc x = true /\ storable sc y = true then some (up y (.pv (.int i)) (up x (.pv (.int i)) r)) else Option.none
    | _ => Option.none) := by rfl
theorem a_s {x : Str} {i e : Expr} : assignF o sc [.Subscript (.Name x q) i p] e r = (do
    match <- ev o sc e r with
    | .int v => match <- ev o sc i r, r x with
      | .int k, some (.own l) => if 0 <= k /\ k < l.length /\ storable sc x = true /\ l.length <= wide then some (up x (.own (l.set k.toNat (.int v))) r) else Option.none
      | _, _ => Option.none
    | _ => Option.none) := by rfl
theorem a_0 {e : Expr} : assignF o sc [] e r = Option.none := by rfl
theorem a_3 {t t' t'' e : Expr} {ts : List Expr} : assignF o sc (t :: t' :: t'' :: ts) e r = Option.none := by
  cases t with
  | Subscript v i q => cases v <;> rfl
  | Name x q => cases t' <;> rfl
  | _ => rfl
end
section
variable {p q : Pos}
theorem s_n {x : Str} : esc (.Name x p) = [x] := by rfl
theorem s_if {t a b : Expr} : esc (.IfExp t a b p) = esc a ++ esc b := by rfl
theorem s_bool {op : BoolOp} {vs : List Expr} : esc (.BoolOp op vs p) = esc.escs vs := by rfl
theorem s_list {es : List Expr} : esc (.List es p) = esc.escs es := by rfl
theorem s_tup {es : List Expr} {k : Nat} : esc (.Tuple es k p) = esc.escs es := by rfl
theorem s_comp {e : Expr} {gs : List Comprehension} {s : Scope} : esc (.ListComp e gs s p) = esc e := by rfl
theorem s_call {f : Str} {as : List Expr} {ks : List Keyword} : esc (.Call (.Name f q) as ks p) = if (bname f).isSome then [] else esc.escs as := by rfl
theorem s_meth {e : Expr} {m : Str} {as : List Expr} {ks : List Keyword} : esc (.Call (.Attribute e m q) as ks p) = [] := by rfl
theorem s_sub {e i : Expr} : esc (.Subscript e i p) = esc.esc' e := by rfl
theorem s_bin {a b : Expr} {op : Operator} : esc (.BinOp a op b p) = esc.esc' a ++ esc.esc' b := by rfl
theorem s_c {c : Const} {k : Nat} : esc (.Constant c k p) = [] := by rfl
theorem s_cmp {a : Expr} {os : List CmpOp} {es : List Expr} : esc (.Compare a os es p) = [] := by rfl
theorem s_un {op : UnaryOp} {a : Expr} : esc (.UnaryOp op a p) = [] := by rfl
theorem s_0 : esc.escs [] = [] := by rfl
theorem s_1 {e : Expr} {es : List Expr} : esc.escs (e :: es) = esc e ++ esc.escs es := by rfl
end
section
variable {sc : Scope} {r : Loc} {p q : Pos}
theorem t_0 : bindTs sc [] [] r = some r := by rfl
theorem t_1 {x : Str} {ts : List Expr} {v : PV} {vs : List PV} : bindTs sc (.Name x p :: ts) (v :: vs) r = if storable sc x = true then bindTs sc ts vs (up x (.pv v) r) else Option.none := by rfl
theorem t_e1 {v : PV} {vs : List PV} : bindTs sc [] (v :: vs) r = Option.none := by rfl
theorem t_e2 {t : Expr} {ts : List Expr} : bindTs sc (t :: ts) [] r = Option.none := by cases t <;> rfl
theorem t_inv {t : Expr} {ts : List Expr} {v : PV} {vs : List PV} {r' : Loc} : bindTs sc (t :: ts) (v :: vs) r = some r' -> ∃ x q, t = .Name x q /\ storable sc x = true /\ bindTs sc ts vs (up x (.pv v) r) = some r' := by
  cases t with
  | Name x q => exact fun h => ⟨x, q, rfl, ite_o h⟩
  | _ => exact ns
theorem u_n {x : Str} {v : PV} : bindT sc (.Name x p) v r = if storable sc x = true then some (up x (.pv v) r) else Option.none := by rfl
theorem u_t {ts : List Expr} {k : Nat} {vs : List PV} : bindT sc (.Tuple ts k p) (.tup vs) r = bindTs sc ts vs r := by rfl
inductive BTs (sc : Scope) : List Expr -> List PV -> Loc -> Loc -> Prop
  | nil (r : Loc) : BTs sc [] [] r r
  | cons (x : Str) (q : Pos) (ts : List Expr) (p : PV) (ps : List PV) (r r' : Loc) (hx : storable sc x = true) (h : BTs sc ts ps (up x (.pv p) r) r') : BTs sc (.Name x q :: ts) (p :: ps) r r'
theorem bts : ∀ {ts : List Expr} {ps : List PV} {r r' : Loc}, bindTs sc ts ps r = some r' -> BTs sc ts ps r r' := by
  intro ts
  induction ts with
  | nil => intro ps r r' h; cases ps with
    | nil => exact Option.some.inj h ▸ .nil r
    | cons => exact ns h
  | cons t ts ih => intro ps r r' h; cases ps with
    | nil => exact ns (t_e2.symm.trans h)
    | cons p ps => obtain ⟨x, q, rfl, hx, h⟩ := t_inv h; exact .cons x q ts p ps r r' hx (ih h)
inductive BT (sc : Scope) : Expr -> PV -> Loc -> Loc -> Prop
  | name (x : Str) (q : Pos) (p : PV) (r : Loc) (hx : storable sc x = true) : BT sc (.Name x q) p r (up x (.pv p) r)
  | tup (ts : List Expr) (k : Nat) (q : Pos) (ps : List PV) (r r' : Loc) (h : bindTs sc ts ps r = some r') : BT sc (.Tuple ts k q) (.tup ps) r r'
theorem bt {t : Expr} {v : PV} {r' : Loc} : bindT sc t v r = some r' -> BT sc t v r r' := by
  cases t with
  | Name x q => exact fun h => (ite_s h).2 ▸ .name x q v r (ite_s h).1
  | Tuple ts k q => cases v with
    | tup ps => exact .tup ts k q ps r r'
    | _ => exact ns
  | _ => exact ns
inductive BE (sc : Scope) : List Expr -> List Expr -> List PV -> Loc -> Loc -> Prop
  | nil (r : Loc) : BE sc [] [] [] r r
  | cons (x : Str) (q : Pos) (ts : List Expr) (e : Expr) (es : List Expr) (p : PV) (ps : List PV) (r r' : Loc) (hx : storable sc x = true) (h : BE sc ts es ps (up x (if emp e = true then .own [] else .pv p) r) r') : BE sc (.Name x q :: ts) (e :: es) (p :: ps) r r'
theorem be_inv {t e : Expr} {ts es : List Expr} {v : PV} {vs : List PV} {r' : Loc} : bindEach sc (t :: ts) (e :: es) (v :: vs) r = some r' -> ∃ x q, t = .Name x q /\ storable sc x = true /\ bindEach sc ts es vs (up x (if emp e = true then .own [] else .pv v) r) = some r' := by
  cases t with
  | Name x q => exact fun h => ⟨x, q, rfl, ite_o h⟩
  | _ => exact ns
theorem be_e1 {t : Expr} {ts : List Expr} {vs : List PV} : bindEach sc (t :: ts) [] vs r = Option.none := by cases t <;> rfl
theorem be_e2 {t e : Expr} {ts es : List Expr} : bindEach sc (t :: ts) (e :: es) [] r = Option.none := by cases t <;> rfl
theorem bes : ∀ {ts es : List Expr} {ps : List PV} {r r' : Loc}, bindEach sc ts es ps r = some r' -> BE sc ts es ps r r' := by
  intro ts
  induction ts with
  | nil => intro es ps r r' h; cases es with
    | nil => cases ps with
      | nil => exact Option.some.inj h ▸ .nil r
      | cons => exact ns h
    | cons => exact ns h
  | cons t ts ih => intro es ps r r' h; cases es with
    | nil => exact ns (be_e1.symm.trans h)
    | cons e es => cases ps with
      | nil => exact ns (be_e2.symm.trans h)
      | cons p ps => obtain ⟨x, q, rfl, hx, h⟩ := be_inv h; exact .cons x q ts e es p ps r r' hx (ih h)
end
end

local macro_rules
  | `(tactic| refine' $h:ident) => `(tactic| first | exact Mine.Internal.ns $h | exact Mine.Internal.bs $h | (replace $h := Option.some.inj $h; subst $h) | cases $h:ident)
section
open PySem PyProof.Rows

noncomputable abbrev Av := Addr -> Prop

noncomputable def NoDict (h : Heap) (a : Addr) : Prop := ∃ o, h.get? a = some o /\ o.dict = Option.none
noncomputable def Fine (h : Heap) (V : Av) (a : Addr) : Prop := ¬ V a /\ NoDict h a

mutual
noncomputable def Rd (h : Heap) (V : Av) : PV -> Value -> Prop
  | .none, v => v = .none
  | .bool b, v => v = .bool b
  | .int i, v => ∃ t, v = .int i t
  | .str s, v => ∃ t, v = .str s t
  | .typ n, v => v = .type n
  | .tup ps, v => ∃ a vs, v = .ref a /\ ¬ V a /\ h.IsTuple a vs /\ RdL h V ps vs.toList
  | .lst ps, v => ∃ a vs, v = .ref a /\ Fine h V a /\ h.IsList a vs /\ RdL h V ps vs.toList
  | .rng a b c, v => ∃ r t u w, v = .ref r /\ ¬ V r /\ IsRange h r a b c t u w /\ Builtin.Range.small a b c = true
noncomputable def RdL (h : Heap) (V : Av) : List PV -> List Value -> Prop
  | [], vs => vs = []
  | p :: ps, vs => ∃ v r, vs = v :: r /\ Rd h V p v /\ RdL h V ps r
end

noncomputable def Gr (V : Av) (h h' : Heap) : Prop := ∀ b o, ¬ V b -> h.get? b = some o -> h'.get? b = some o

theorem Gr.refl {V : Av} {h : Heap} : Gr V h h := fun y_ y_ y_ e => e
theorem Gr.trans {V : Av} {h h' h'' : Heap} (a : Gr V h h') (b : Gr V h' h'') : Gr V h h'' := fun x o n e => b x o n (a x o n e)
theorem Gr.weak {V V' : Av} {h h' : Heap} (a : Gr V h h') (k : ∀ b, V b -> V' b) : Gr V' h h' := fun x o n e => a x o (fun q => n (k x q)) e
theorem Gr.of_ext {V : Av} {h h' : Heap} (a : ∀ b o, h.get? b = some o -> h'.get? b = some o) : Gr V h h' := fun x o y_ e => a x o e
theorem Gr.push {V : Av} {h : Heap} {o : Obj} : Gr V h (h.push o) := fun y_ y_ y_ e => Heap.get?_push_of_some _ e
theorem Gr.same {V : Av} {h h' : Heap} {a : Addr} (s : Heap.SameBut a h h') (v : V a) : Gr V h h' := fun b o n e => s.extBut b o (fun q => n (q ▸ v)) e

mutual
theorem Rd.mono {h h' : Heap} {V V' : Av} : ∀ {p : PV} {v : Value}, Rd h V p v -> Gr V h h' -> (∀ b o, h.get? b = some o -> V' b -> V b) -> Rd h' V' p v
  | .none, _, x, _, _ => x
  | .bool _, _, x, _, _ => x
  | .int _, _, x, _, _ => x
  | .str _, _, x, _, _ => x
  | .typ _, _, x, _, _ => x
  | .tup ps, v, x, g, k => by
    obtain ⟨a, vs, e, n, ⟨o, ho, hc⟩, r⟩ := x
    exact Exists.intro a ⟨vs, e, fun q => n (k a o ho q), ⟨o, g a o n ho, hc⟩, RdL.mono r g k⟩
  | .lst ps, v, x, g, k => by
    obtain ⟨a, vs, e, ⟨n, o', ho', hd⟩, ⟨o, ho, hc⟩, r⟩ := x
    exact Exists.intro a ⟨vs, e, ⟨fun q => n (k a o ho q), o', g a o' n ho', hd⟩, ⟨o, g a o n ho, hc⟩, RdL.mono r g k⟩
  | .rng _ _ _, v, x, g, k => by
    obtain ⟨r, t, u, w, e, n, ho, hs⟩ := x
    exact Exists.intro r ⟨t, u, w, e, fun q => n (k _ _ ho q), g _ _ n ho, hs⟩
theorem RdL.mono {h h' : Heap} {V V' : Av} : ∀ {p : List PV} {v : List Value}, RdL h V p v -> Gr V h h' -> (∀ b o, h.get? b = some o -> V' b -> V b) -> RdL h' V' p v
  | [], _, x, _, _ => x
  | p :: ps, vs, x, g, k => by
    obtain ⟨v, r, e, a, b⟩ := x
    exact Exists.intro v ⟨r, e, Rd.mono a g k, RdL.mono b g k⟩
end

theorem Rd.gr {h h' : Heap} {V : Av} {p : PV} {v : Value} (x : Rd h V p v) (g : Gr V h h') : Rd h' V p v := x.mono g fun y_ y_ y_ q => q
theorem RdL.gr {h h' : Heap} {V : Av} {p : List PV} {v : List Value} (x : RdL h V p v) (g : Gr V h h') : RdL h' V p v := x.mono g fun y_ y_ y_ q => q
theorem Rd.less {h : Heap} {V V' : Av} {p : PV} {v : Value} (x : Rd h V p v) (k : ∀ b, V' b -> V b) : Rd h V' p v := x.mono Gr.refl fun b y_ y_ => k b
theorem RdL.less {h : Heap} {V V' : Av} {p : List PV} {v : List Value} (x : RdL h V p v) (k : ∀ b, V' b -> V b) : RdL h V' p v := x.mono Gr.refl fun b y_ y_ => k b

@[simp] theorem RdL_nil {h : Heap} {V : Av} {vs : List Value} : RdL h V [] vs ↔ vs = [] := Iff.rfl
theorem RdL_cons {h : Heap} {V : Av} {p : PV} {ps : List PV} {vs : List Value} : RdL h V (p :: ps) vs ↔ ∃ v r, vs = v :: r /\ Rd h V p v /\ RdL h V ps r := Iff.rfl
theorem RdL.cons {h : Heap} {V : Av} {p : PV} {ps : List PV} {v : Value} {vs : List Value} (a : Rd h V p v) (b : RdL h V ps vs) : RdL h V (p :: ps) (v :: vs) := RdL_cons.mpr ⟨v, vs, rfl, a, b⟩
theorem RdL.nil {h : Heap} {V : Av} : RdL h V [] [] := RdL_nil.mpr rfl
theorem RdL.length {h : Heap} {V : Av} : ∀ {ps : List PV} {vs : List Value}, RdL h V ps vs -> vs.length = ps.length
  | [], _, x => by rw [RdL_nil.mp x]; rfl
  | _ :: ps, _, x => by obtain ⟨v, r, rfl, _, b⟩ := RdL_cons.mp x; simp -iota [RdL.length b]
theorem RdL.get {h : Heap} {V : Av} : ∀ {ps : List PV} {vs : List Value} {i : Nat} {p : PV}, RdL h V ps vs -> ps[i]? = some p -> ∃ v, vs[i]? = some v /\ Rd h V p v
  | [], _, _, _, _, e => by simp -iota at e
  | _ :: ps, _, 0, _, x, e => by obtain ⟨v, r, rfl, a, _⟩ := RdL_cons.mp x; simp -iota at e; subst e; exact ⟨v, rfl, a⟩
  | _ :: ps, _, i + 1, _, x, e => by obtain ⟨v, r, rfl, _, b⟩ := RdL_cons.mp x; simp -iota at e; simpa -iota using RdL.get b e
theorem RdL.append {h : Heap} {V : Av} : ∀ {ps qs : List PV} {vs ws : List Value}, RdL h V ps vs -> RdL h V qs ws -> RdL h V (ps ++ qs) (vs ++ ws)
  | [], _, _, _, x, y => by rw [RdL_nil.mp x]; simpa -iota using y
  | _ :: ps, _, _, _, x, y => by obtain ⟨v, r, rfl, a, b⟩ := RdL_cons.mp x; exact RdL.cons a (RdL.append b y)
theorem RdL.sub {h : Heap} {V : Av} {ps : List PV} {vs : List Value} (x : RdL h V ps vs) : ∀ (is : List Nat), RdL h V (is.filterMap (ps[·]?)) (is.filterMap (vs[·]?))
  | [] => RdL.nil
  | i :: is => by
    simp -iota only [List.filterMap_cons]
    cases e : ps[i]? with
    | none =>
      have : vs[i]? = none := by rw [List.getElem?_eq_none_iff] at e ⊢; rw [x.length]; exact e
      rw [this]; exact RdL.sub x is
    | some p =>
      obtain ⟨v, hv, a⟩ := x.get e
      rw [hv]; exact RdL.cons a (RdL.sub x is)
theorem RdL.drop {h : Heap} {V : Av} : ∀ {ps : List PV} {vs : List Value} (n : Nat), RdL h V ps vs -> RdL h V (ps.drop n) (vs.drop n)
  | _, _, 0, x => x
  | [], _, n + 1, x => by rw [RdL_nil.mp x]; exact RdL.nil
  | _ :: ps, _, n + 1, x => by obtain ⟨v, r, rfl, _, b⟩ := RdL_cons.mp x; exact RdL.drop n b
theorem RdL.take {h : Heap} {V : Av} : ∀ {ps : List PV} {vs : List Value} (n : Nat), RdL h V ps vs -> RdL h V (ps.take n) (vs.take n)
  | _, _, 0, _ => RdL.nil
  | [], _, n + 1, x => by rw [RdL_nil.mp x]; exact RdL.nil
  | _ :: ps, _, n + 1, x => by obtain ⟨v, r, rfl, a, b⟩ := RdL_cons.mp x; exact RdL.cons a (RdL.take n b)
theorem RdL.set {h : Heap} {V : Av} : ∀ {ps : List PV} {vs : List Value} {p : PV} {v : Value} (n : Nat), RdL h V ps vs -> Rd h V p v -> RdL h V (ps.set n p) (vs.set n v)
  | [], _, _, _, n, x, _ => by rw [RdL_nil.mp x]; exact RdL.nil
  | _ :: ps, _, _, _, 0, x, y => by obtain ⟨w, r, rfl, _, b⟩ := RdL_cons.mp x; exact RdL.cons y b
  | _ :: ps, _, _, _, n + 1, x, y => by obtain ⟨w, r, rfl, a, b⟩ := RdL_cons.mp x; exact RdL.cons a (RdL.set n b y)
theorem RdL.ints {h : Heap} {V : Av} : ∀ {ps : List PV} {vs : List Value} {ns : List Int}, RdL h V ps vs -> ints? ps = some ns -> IntsAre vs ns
  | [], _, _, x, e => by rw [RdL_nil.mp x]; cases (show some [] = some _ from e); exact .nil
  | .int i :: ps, _, _, x, e => by
    obtain ⟨v, r, rfl, a, b⟩ := RdL_cons.mp x
    obtain ⟨ns, hn, rfl⟩ := Option.map_eq_some_iff.mp (show (ints? ps).map (i :: ·) = some _ from e)
    obtain ⟨t, rfl⟩ := a
    exact .cons i t (RdL.ints b hn)
  | .none :: _, _, _, _, e | .bool _ :: _, _, _, _, e | .str _ :: _, _, _, _, e | .typ _ :: _, _, _, _, e | .tup _ :: _, _, _, _, e | .lst _ :: _, _, _, _, e
  | .rng _ _ _ :: _, _, _, _, e => nomatch (show (Option.none : Option (List Int)) = some _ from e)

structure Ext (s s' : Shared) : Prop where
  heap : ∀ b o, s.heap.get? b = some o -> s'.heap.get? b = some o
  os : s'.os = s.os
  gens : AllBare s.gens -> AllBare s'.gens
theorem Ext.refl {s : Shared} : Ext s s := ⟨fun y_ y_ e => e, rfl, fun x => x⟩
theorem Ext.trans {s s' s'' : Shared} (a : Ext s s') (b : Ext s' s'') : Ext s s'' := ⟨fun x o e => b.heap x o (a.heap x o e), b.os.trans a.os, fun x => b.gens (a.gens x)⟩
theorem Ext.toks {s s' : Shared} {n : Nat} (a : Ext s s') : Ext s { s' with toks := n } := ⟨a.heap, a.os, a.gens⟩
theorem Ext.keeps {s s' : Shared} (k : Keeps s s') : Ext s s' := by obtain ⟨h', tk, rfl, k⟩ := k; exact ⟨k, rfl, fun x => x⟩
theorem Ext.of_heap {s : Shared} {h' : Heap} {n : Nat} (k : ∀ b o, s.heap.get? b = some o -> h'.get? b = some o) : Ext s { s with heap := h', toks := n } := ⟨k, rfl, fun x => x⟩
theorem Ext.gr {V : Av} {s s' : Shared} (a : Ext s s') : Gr V s.heap s'.heap := fun b o y_ e => a.heap b o e

structure Room (k : Nat) (A : Around) : Prop where
  handled : A.handled = none
  depth : A.depth + k < 900
  units : A.units + 10 * k < 8000
theorem Room.less {k j : Nat} {A : Around} (x : Room k A) (h : j <= k) : Room j A := ⟨x.handled, Nat.lt_of_le_of_lt (Nat.add_le_add_left h _) x.depth, Nat.lt_of_le_of_lt (Nat.add_le_add_left (Nat.mul_le_mul_left 10 h) _) x.units⟩
theorem Room.in1 {k : Nat} {A : Around} (x : Room (k + 1) A) : A.depth + 1 + k < 900 /\ A.units + 3 + 10 * k < 8000 :=
  ⟨by rw [Nat.add_right_comm]; exact x.depth, Nat.lt_of_le_of_lt (show A.units + 3 + 10 * k <= A.units + 10 * k + 10 by rw [Nat.add_right_comm]; exact Nat.add_le_add_left (show 3 <= 10 by decide) _) x.units⟩

end

section
open PySem PyProof.Rows

inductive BinR : Operator -> PV -> PV -> PV -> Prop
  | addI (a b : Int) : BinR .Add (.int a) (.int b) (.int (a + b))
  | subI (a b : Int) : BinR .Sub (.int a) (.int b) (.int (a - b))
  | mulI (a b : Int) (k : (small a && small b) = true) : BinR .Mult (.int a) (.int b) (.int (a * b))
  | fdv (a b : Int) (k : ¬ b = 0) (m : small b = true) : BinR .FloorDiv (.int a) (.int b) (.int (a.fdiv b))
  | md (a b : Int) (k : ¬ b = 0) : BinR .Mod (.int a) (.int b) (.int (a.fmod b))
  | pw (a b : Int) (k : (small a && decide (0 <= b) && decide (b < 1000)) = true) : BinR .Pow (.int a) (.int b) (.int (a ^ b.toNat))
  | addS (a b : Str) (k : a.length + b.length <= wide) : BinR .Add (.str a) (.str b) (.str (a ++ b))
  | addL (a b : List PV) (k : a.length + b.length <= wide) : BinR .Add (.lst a) (.lst b) (.lst (a ++ b))

theorem bin_inv {op : Operator} {x y p : PV} : bin op x y = some p -> BinR op x y p := by
  cases op with
  | Add => cases x with
    | int a => cases y with
      | int b => intro h; exact Option.some.inj h ▸ .addI a b
      | _ => exact ns
    | str a => cases y with
      | str b => intro h; exact (ite_s h).2 ▸ .addS a b (ite_s h).1
      | _ => exact ns
    | lst a => cases y with
      | lst b => intro h; exact (ite_s h).2 ▸ .addL a b (ite_s h).1
      | _ => exact ns
    | _ => exact ns
  | Sub => cases x with
    | int a => cases y with
      | int b => intro h; exact Option.some.inj h ▸ .subI a b
      | _ => exact ns
    | _ => exact ns
  | Mult => cases x with
    | int a => cases y with
      | int b => intro h; exact (ite_s h).2 ▸ .mulI a b (ite_s h).1
      | _ => exact ns
    | _ => exact ns
  | FloorDiv => cases x with
    | int a => cases y with
      | int b => intro h; exact (ite_s (ite_n h).2).2 ▸ .fdv a b (ite_n h).1 (ite_s (ite_n h).2).1
      | _ => exact ns
    | _ => exact ns
  | Mod => cases x with
    | int a => cases y with
      | int b => intro h; exact Option.some.inj (ite_n h).2 ▸ .md a b (ite_n h).1
      | _ => exact ns
    | _ => exact ns
  | Pow => cases x with
    | int a => cases y with
      | int b => intro h; exact (ite_s h).2 ▸ .pw a b (ite_s h).1
      | _ => exact ns
    | _ => exact ns
  | _ => cases x <;> exact ns

inductive PeqR : Nat -> PV -> PV -> Bool -> Prop
  | ii (n : Nat) (a b : Int) : PeqR n (.int a) (.int b) (a == b)
  | ss (n : Nat) (a b : Str) : PeqR n (.str a) (.str b) (a == b)
  | ll (n : Nat) (a b : List PV) (c : Bool) (h : (if a.length = b.length then peqs (peq n) a b else some false) = some c) : PeqR (n + 1) (.lst a) (.lst b) c
theorem peq_inv {n : Nat} {x y : PV} {c : Bool} : peq n x y = some c -> PeqR n x y c := by
  cases x with
  | int a => cases y with
    | int b => cases n with
      | zero => intro h; exact Option.some.inj h ▸ .ii 0 a b
      | succ n => intro h; exact Option.some.inj h ▸ .ii (n + 1) a b
    | _ => cases n <;> exact ns
  | str a => cases y with
    | str b => cases n with
      | zero => intro h; exact Option.some.inj h ▸ .ss 0 a b
      | succ n => intro h; exact Option.some.inj h ▸ .ss (n + 1) a b
    | _ => cases n <;> exact ns
  | lst a => cases n with
    | zero => cases y <;> exact ns
    | succ n => cases y with
      | lst b => exact .ll n a b c
      | _ => exact ns
  | _ => cases n <;> exact ns
theorem peqs_inv {f : PV -> PV -> Option Bool} {a b : PV} {r t : List PV} {c : Bool} (h : peqs f (a :: r) (b :: t) = some c) : ∃ x y, f a b = some x /\ peqs f r t = some y /\ (x && y) = c := by
  obtain ⟨x, h1, h⟩ := Option.bind_eq_some_iff.mp (show (f a b).bind (fun x => (peqs f r t).bind fun y => some (x && y)) = some c from h)
  obtain ⟨y, h2, h⟩ := Option.bind_eq_some_iff.mp h
  exact ⟨x, y, h1, h2, Option.some.inj h⟩

inductive CmpR : CmpOp -> PV -> PV -> Bool -> Prop
  | lt (a b : Int) : CmpR .Lt (.int a) (.int b) (decide (a < b))
  | le (a b : Int) : CmpR .LtE (.int a) (.int b) (decide (a <= b))
  | gt (a b : Int) : CmpR .Gt (.int a) (.int b) (decide (b < a))
  | eqB (a b : Bool) : CmpR .Eq (.bool a) (.bool b) (a == b)
  | neB (a b : Bool) : CmpR .NotEq (.bool a) (.bool b) (!(a == b))
  | eq (a b : PV) (c : Bool) (h : peq 8 a b = some c) : CmpR .Eq a b c
  | ne (a b : PV) (c : Bool) (h : peq 8 a b = some c) : CmpR .NotEq a b (!c)
  | leL (a b : List PV) (m n : List Int) (h : ints? a = some m) (k : ints? b = some n) : CmpR .LtE (.lst a) (.lst b) (leInts m n)
  | isB (a b : Bool) : CmpR .Is (.bool a) (.bool b) (a == b)
  | isnB (a b : Bool) : CmpR .IsNot (.bool a) (.bool b) (!(a == b))
  | isN : CmpR .Is .none .none true
  | isnN : CmpR .IsNot .none .none false
  | isI (a : Int) : CmpR .Is (.int a) .none false
  | isnI (a : Int) : CmpR .IsNot (.int a) .none true
  | isS (a : Str) : CmpR .Is (.str a) .none false
  | isnS (a : Str) : CmpR .IsNot (.str a) .none true
  | isnT (a b : String) : CmpR .IsNot (.typ a) (.typ b) (!(a == b))
  | inI (a : Int) (b : List PV) (n : List Int) (h : ints? b = some n) : CmpR .In (.int a) (.lst b) (n.contains a)
  | ninI (a : Int) (b : List PV) (n : List Int) (h : ints? b = some n) : CmpR .NotIn (.int a) (.lst b) (!n.contains a)
  | inS (a b : Str) : CmpR .In (.str a) (.str b) (strIn a b)
  | ninS (a b : Str) : CmpR .NotIn (.str a) (.str b) (!strIn a b)
theorem le_inv {a b : List PV} {c : Bool} (h : cmp .LtE (.lst a) (.lst b) = some c) : CmpR .LtE (.lst a) (.lst b) c := by
  replace h : (match ints? a, ints? b with | some a, some b => some (leInts a b) | _, _ => Option.none) = some c := h
  cases e1 : ints? a with
  | none => rw [e1] at h; exact ns h
  | some m => cases e2 : ints? b with
    | none => rw [e1, e2] at h; exact ns h
    | some n => rw [e1, e2] at h; exact Option.some.inj h ▸ .leL a b m n e1 e2
theorem ne_inv {x y : PV} {c : Bool} (h : (peq 8 x y).map (!·) = some c) : CmpR .NotEq x y c :=
  let ⟨d, k, e⟩ := Option.map_eq_some_iff.mp h; e ▸ .ne x y d k
theorem inI_inv {a : Int} {b : List PV} {c : Bool} (h : (ints? b).map (·.contains a) = some c) : CmpR .In (.int a) (.lst b) c :=
  let ⟨n, k, e⟩ := Option.map_eq_some_iff.mp h; e ▸ .inI a b n k
theorem ninI_inv {a : Int} {b : List PV} {c : Bool} (h : (ints? b).map (!·.contains a) = some c) : CmpR .NotIn (.int a) (.lst b) c :=
  let ⟨n, k, e⟩ := Option.map_eq_some_iff.mp h; e ▸ .ninI a b n k
theorem cmp_inv {op : CmpOp} {x y : PV} {c : Bool} : cmp op x y = some c -> CmpR op x y c := by
  cases op with
  | Eq => cases x with
    | bool a => cases y with
      | bool b => intro h; exact Option.some.inj h ▸ .eqB a b
      | _ => exact .eq _ _ _
    | _ => exact .eq _ _ _
  | NotEq => cases x with
    | bool a => cases y with
      | bool b => intro h; exact Option.some.inj h ▸ .neB a b
      | _ => intro h; refine ne_inv ?_; exact h
    | _ => intro h; refine ne_inv ?_; exact h
  | Lt => cases x with
    | int a => cases y with
      | int b => intro h; exact Option.some.inj h ▸ .lt a b
      | _ => exact ns
    | _ => exact ns
  | LtE => cases x with
    | int a => cases y with
      | int b => intro h; exact Option.some.inj h ▸ .le a b
      | _ => exact ns
    | lst a => cases y with
      | lst b => exact le_inv
      | _ => exact ns
    | _ => exact ns
  | Gt => cases x with
    | int a => cases y with
      | int b => intro h; exact Option.some.inj h ▸ .gt a b
      | _ => exact ns
    | _ => exact ns
  | GtE => cases x <;> exact ns
  | Is => cases x with
    | bool a => cases y with
      | bool b => intro h; exact Option.some.inj h ▸ .isB a b
      | _ => exact ns
    | none => cases y with
      | none => intro h; exact Option.some.inj h ▸ .isN
      | _ => exact ns
    | int a => cases y with
      | none => intro h; exact Option.some.inj h ▸ .isI a
      | _ => exact ns
    | str a => cases y with
      | none => intro h; exact Option.some.inj h ▸ .isS a
      | _ => exact ns
    | _ => exact ns
  | IsNot => cases x with
    | bool a => cases y with
      | bool b => intro h; exact Option.some.inj h ▸ .isnB a b
      | _ => exact ns
    | none => cases y with
      | none => intro h; exact Option.some.inj h ▸ .isnN
      | _ => exact ns
    | int a => cases y with
      | none => intro h; exact Option.some.inj h ▸ .isnI a
      | _ => exact ns
    | str a => cases y with
      | none => intro h; exact Option.some.inj h ▸ .isnS a
      | _ => exact ns
    | typ a => cases y with
      | typ b => intro h; exact Option.some.inj h ▸ .isnT a b
      | _ => exact ns
    | _ => exact ns
  | In => cases x with
    | int a => cases y with
      | lst b => exact inI_inv
      | _ => exact ns
    | str a => cases y with
      | str b => intro h; exact Option.some.inj h ▸ .inS a b
      | _ => exact ns
    | _ => exact ns
  | NotIn => cases x with
    | int a => cases y with
      | lst b => exact ninI_inv
      | _ => exact ns
    | str a => cases y with
      | str b => intro h; exact Option.some.inj h ▸ .ninS a b
      | _ => exact ns
    | _ => exact ns

inductive BMR : BM -> PV -> List PV -> PV -> Prop
  | lower (s : Str) (h : s.length <= 1000) : BMR .lower (.str s) [] (.str (Txt.lower s))
  | upper (s : Str) (h : s.length <= 1000) : BMR .upper (.str s) [] (.str (Txt.upper s))
  | join (l : List PV) (ss : List Str) (h : strs? l = some ss) (k : (ss.map (·.length)).sum <= wide) : BMR .join (.str ⟨#[]⟩) [.lst l] (.str (joinAll ss))
  | count (l : List PV) (q : PV) (bs : List Bool) (h : l.length <= wide) (k : (l.mapM fun z => peq 8 z q) = some bs) : BMR .count (.lst l) [q] (.int (bs.countP id : Nat))
theorem join_inv {s : Str} {l : List PV} {p : PV} (h : bmeth .join (.str s) [.lst l] = some p) : BMR .join (.str s) [.lst l] p := by
  obtain ⟨rfl, h⟩ : s = ⟨#[]⟩ /\ ((strs? l).bind fun l => if (l.map (·.length)).sum <= wide then some (PV.str (joinAll l)) else Option.none) = some p := by
    by_cases k : s = ⟨#[]⟩
    . exact ⟨k, (if_pos k).symm.trans h⟩
    . exact ns ((if_neg k).symm.trans h)
  obtain ⟨ss, h1, h⟩ := Option.bind_eq_some_iff.mp h
  exact (ite_s h).2 ▸ .join l ss h1 (ite_s h).1
theorem count_inv {l : List PV} {q p : PV} (h : bmeth .count (.lst l) [q] = some p) : BMR .count (.lst l) [q] p := by
  by_cases k : l.length <= wide
  . obtain ⟨bs, h1, e⟩ := Option.map_eq_some_iff.mp ((if_pos k).symm.trans h)
    exact e ▸ .count l q bs k h1
  . exact ns ((if_neg k).symm.trans h)
theorem bmeth_inv {m : BM} {o p : PV} {as : List PV} : bmeth m o as = some p -> BMR m o as p := by
  cases m with
  | lower => cases o with
    | str s => cases as with
      | nil => intro h; exact (ite_s h).2 ▸ .lower s (ite_s h).1
      | cons => exact ns
    | _ => exact ns
  | upper => cases o with
    | str s => cases as with
      | nil => intro h; exact (ite_s h).2 ▸ .upper s (ite_s h).1
      | cons => exact ns
    | _ => exact ns
  | join => cases o with
    | str s => cases as with
      | nil => exact ns
      | cons x as => cases as with
        | nil => cases x with
          | lst l => exact join_inv
          | _ => exact ns
        | cons => cases x <;> exact ns
    | _ => exact ns
  | count => cases o with
    | lst l => cases as with
      | nil => exact ns
      | cons x as => cases as with
        | nil => exact count_inv
        | cons => exact ns
    | _ => exact ns

inductive SubR : PV -> PV -> PV -> Prop
  | lst (l : List PV) (i : Int) (k : Nat) (p : PV) (hs : small i = true) (hk : item l.length i = some k) (hg : l[k]? = some p) : SubR (.lst l) (.int i) p
  | tup (l : List PV) (i : Int) (k : Nat) (p : PV) (hs : small i = true) (hk : item l.length i = some k) (hg : l[k]? = some p) : SubR (.tup l) (.int i) p
  | str (s : Str) (i : Int) (k c : Nat) (hs : small i = true) (hk : item s.length i = some k) (hg : s.cps[k]? = some c) : SubR (.str s) (.int i) (.str ⟨#[c]⟩)
theorem subsc_inv {x y p : PV} : subsc x y = some p -> SubR x y p := by
  cases x with
  | lst l => cases y with
    | int i => intro h; obtain ⟨h1, h⟩ := ite_o h; obtain ⟨k, h2, h3⟩ := Option.bind_eq_some_iff.mp h; exact .lst l i k p h1 h2 h3
    | _ => exact ns
  | tup l => cases y with
    | int i => intro h; obtain ⟨h1, h⟩ := ite_o h; obtain ⟨k, h2, h3⟩ := Option.bind_eq_some_iff.mp h; exact .tup l i k p h1 h2 h3
    | _ => exact ns
  | str s => cases y with
    | int i => intro h; obtain ⟨h1, h⟩ := ite_o h; obtain ⟨k, h2, h3⟩ := Option.bind_eq_some_iff.mp h; obtain ⟨c, h4, e⟩ := Option.map_eq_some_iff.mp h3; exact e ▸ .str s i k c h1 h2 h4
    | _ => exact ns
  | _ => cases y <;> exact ns

theorem own_inv {α : Type} {f : List PV -> Option α} {a : Option Slot} {c : α} (h : (match a with | some (.own l) => f l | _ => Option.none) = some c) : ∃ l, a = some (.own l) /\ f l = some c := by
  cases a with
  | none => exact ns h
  | some s => cases s with
    | own l => exact ⟨l, rfl, h⟩
    | _ => exact ns h
theorem kown_inv {α : Type} {f : Int -> List PV -> Option α} {p : PV} {a : Option Slot} {c : α} (h : (match p, a with | .int k, some (.own l) => f k l | _, _ => Option.none) = some c) : ∃ k l, p = .int k /\ a = some (.own l) /\ f k l = some c := by
  cases p with
  | int k => cases a with
    | none => exact ns h
    | some s => cases s with
      | own l => exact ⟨k, l, rfl, rfl, h⟩
      | _ => exact ns h
  | _ => exact ns h
theorem stor_inv {sc : Scope} {x : Str} (h : storable sc x = true) : kd sc x = some .local \/ kd sc x = some .cell := by
  unfold storable at h
  cases k : kd sc x with
  | none => rw [k] at h; exact bs h
  | some k' => rw [k] at h; cases k' <;> first | exact .inl rfl | exact .inr rfl | exact bs h
theorem int_inv {α : Type} {f : Int -> Option α} {a : PV} {c : α} (h : (match a with | .int i => f i | _ => Option.none) = some c) : ∃ i, a = .int i /\ f i = some c := by
  cases a with
  | int i => exact ⟨i, rfl, h⟩
  | _ => exact ns h
theorem subsc_l {l : List PV} {i : Int} : subsc (.lst l) (.int i) = if small i then (item l.length i).bind (l[·]?) else Option.none := rfl
theorem subsc_t {l : List PV} {i : Int} : subsc (.tup l) (.int i) = if small i then (item l.length i).bind (l[·]?) else Option.none := rfl
theorem subsc_s {s : Str} {i : Int} : subsc (.str s) (.int i) = if small i then (item s.length i).bind fun k => (s.cps[k]?).map fun c => .str ⟨#[c]⟩ else Option.none := rfl

inductive TruR : PV -> Bool -> Prop
  | none : TruR .none false
  | bool (b : Bool) : TruR (.bool b) b
  | int (i : Int) : TruR (.int i) (i != 0)
  | str (s : Str) (h : s.length <= wide) : TruR (.str s) (s.length != 0)
theorem truth_inv {p : PV} {b : Bool} : truth p = some b -> TruR p b := by
  cases p with
  | none => intro h; exact Option.some.inj h ▸ .none
  | bool => intro h; exact Option.some.inj h ▸ .bool _
  | int => intro h; exact Option.some.inj h ▸ .int _
  | str => intro h; exact (ite_s h).2 ▸ .str _ (ite_s h).1
  | _ => exact ns

inductive BouR : PV -> Option Int -> Prop
  | none : BouR .none Option.none
  | int (i : Int) : BouR (.int i) (some i)
theorem bound_inv {p : PV} {o : Option Int} : bound? p = some o -> BouR p o := by
  cases p with
  | none => intro h; exact Option.some.inj h ▸ .none
  | int => intro h; exact Option.some.inj h ▸ .int _
  | _ => exact ns

inductive SliR : PV -> PV -> PV -> PV -> PV -> Prop
  | lst (x : List PV) (pl pu ps : PV) (l u : Option Int) (hl : bound? pl = some l) (hu : bound? pu = some u) (hs : bound? ps = some Option.none) (hw : x.length <= wide) : SliR (.lst x) pl pu ps (.lst (cut x l u))
  | str (x : Str) (pl pu ps : PV) (l u : Option Int) (hl : bound? pl = some l) (hu : bound? pu = some u) (hs : bound? ps = some Option.none) (hw : x.length <= wide) : SliR (.str x) pl pu ps (.str ⟨(cut x.cps.toList l u).toArray⟩)
  | by (x : List PV) (pl pu ps : PV) (l u : Option Int) (k : Int) (hl : bound? pl = some l) (hu : bound? pu = some u) (hs : bound? ps = some (some k)) (hk : ¬ k = 0) (hw : x.length <= wide) : SliR (.lst x) pl pu ps (.lst (pick x l u (some k)))
noncomputable def sl1 (o : PV) (l u : Option Int) : Option PV :=
  match o with
  | .lst x => if x.length <= wide then some (.lst (cut x l u)) else Option.none
  | .str x => if x.length <= wide then some (.str ⟨(cut x.cps.toList l u).toArray⟩) else Option.none
  | _ => Option.none
noncomputable def sl2 (o : PV) (l u : Option Int) (k : Int) : Option PV :=
  if k = 0 then Option.none else match o with
    | .lst x => if x.length <= wide then some (.lst (pick x l u (some k))) else Option.none
    | _ => Option.none
noncomputable def sl3 (o : PV) : Option (Option Int) -> Option (Option Int) -> Option (Option Int) -> Option PV
  | some _, some _, Option.none => Option.none
  | some l, some u, some Option.none => sl1 o l u
  | some l, some u, some (some k) => sl2 o l u k
  | _, _, _ => Option.none
theorem slice_eq (o l u st : PV) : slice o l u st = sl3 o (bound? l) (bound? u) (bound? st) := rfl
theorem slice_inv {o l u st p : PV} (h : slice o l u st = some p) : SliR o l u st p := by
  rw [slice_eq] at h
  cases h1 : bound? l with
  | none => rw [h1] at h; exact ns h
  | some a =>
    cases h2 : bound? u with
    | none => rw [h1, h2] at h; exact ns h
    | some b =>
      cases h3 : bound? st with
      | none => rw [h1, h2, h3] at h; exact ns h
      | some c =>
        rw [h1, h2, h3] at h
        cases c with
        | none =>
          cases o with
          | lst x => exact (ite_s h).2 ▸ .lst x l u st a b h1 h2 h3 (ite_s h).1
          | str x => exact (ite_s h).2 ▸ .str x l u st a b h1 h2 h3 (ite_s h).1
          | _ => exact ns h
        | some k =>
          replace h := ite_n h
          cases o with
          | lst x => exact (ite_s h.2).2 ▸ .by x l u st a b k h1 h2 h3 h.1 (ite_s h.2).1
          | _ => exact ns h.2
inductive BfR : BF -> List PV -> PV -> Prop
  | lenL (l : List PV) (h : l.length <= wide) : BfR .len [.lst l] (.int l.length)
  | lenS (l : Str) (h : l.length <= wide) : BfR .len [.str l] (.int l.length)
  | r1 (b : Int) (h : tiny b = true) : BfR .range [.int b] (.rng 0 b 1)
  | r2 (a b : Int) (h : (tiny a && tiny b) = true) : BfR .range [.int a, .int b] (.rng a b 1)
  | r3 (a b c : Int) (h : (tiny a && tiny b && tiny c && decide (c ≠ 0)) = true) : BfR .range [.int a, .int b, .int c] (.rng a b c)
  | list (a b c : Int) (h : (rngList a b c).length <= wide) : BfR .list [.rng a b c] (.lst (rngList a b c))
  | min2 (a b : Int) : BfR .min [.int a, .int b] (.int (if b < a then b else a))
  | minL (l : List PV) (n : List Int) (m : Int) (h : ints? l = some n) (k : minInts n = some m) : BfR .min [.lst l] (.int m)
  | sum (l : List PV) (n : List Int) (h : ints? l = some n) : BfR .sum [.lst l] (.int n.sum)
  | abs (a : Int) : BfR .abs [.int a] (.int (if a < 0 then -a else a))
  | chr (a : Int) (h : 0 <= a /\ a <= 1114111) : BfR .chr [.int a] (.str ⟨#[a.toNat]⟩)
  | ord (s : Str) (h : s.length = 1) : BfR .ord [.str s] (.int (s.cps.getD 0 0 : Nat))
  | type (a : Int) : BfR .type [.int a] (.typ "int")
theorem min_inv {l : List PV} {p : PV} (h : ((ints? l).bind fun l => (minInts l).map PV.int) = some p) : BfR .min [.lst l] p :=
  let ⟨n, h1, h⟩ := Option.bind_eq_some_iff.mp h
  let ⟨m, h2, e⟩ := Option.map_eq_some_iff.mp h
  e ▸ .minL l n m h1 h2
theorem sum_inv {l : List PV} {p : PV} (h : ((ints? l).map fun l => PV.int l.sum) = some p) : BfR .sum [.lst l] p :=
  let ⟨n, h1, e⟩ := Option.map_eq_some_iff.mp h
  e ▸ .sum l n h1
theorem bf_inv1 {f : BF} {x p : PV} : bf f [x] = some p -> BfR f [x] p := by
  cases f with
  | len => cases x with
    | lst l => intro h; exact (ite_s h).2 ▸ .lenL l (ite_s h).1
    | str l => intro h; exact (ite_s h).2 ▸ .lenS l (ite_s h).1
    | _ => exact ns
  | range => cases x with
    | int b => intro h; exact (ite_s h).2 ▸ .r1 b (ite_s h).1
    | _ => exact ns
  | list => cases x with
    | rng a b c => intro h; exact (ite_s h).2 ▸ .list a b c (ite_s h).1
    | _ => exact ns
  | min => cases x with
    | lst l => exact min_inv
    | _ => exact ns
  | sum => cases x with
    | lst l => exact sum_inv
    | _ => exact ns
  | abs => cases x with
    | int a => intro h; exact Option.some.inj h ▸ .abs a
    | _ => exact ns
  | chr => cases x with
    | int a => intro h; exact (ite_s h).2 ▸ .chr a (ite_s h).1
    | _ => exact ns
  | ord => cases x with
    | str s => intro h; exact (ite_s h).2 ▸ .ord s (ite_s h).1
    | _ => exact ns
  | type => cases x with
    | int a => intro h; exact Option.some.inj h ▸ .type a
    | _ => exact ns
theorem bf_inv {f : BF} {as : List PV} {p : PV} : bf f as = some p -> BfR f as p := by
  cases as with
  | nil => cases f <;> exact ns
  | cons x as => cases as with
    | nil => exact bf_inv1
    | cons y as => cases f with
      | range => cases x with
        | int a => cases y with
          | int b => cases as with
            | nil => intro h; exact (ite_s h).2 ▸ .r2 a b (ite_s h).1
            | cons z as => cases z with
              | int c => cases as with
                | nil => intro h; exact (ite_s h).2 ▸ .r3 a b c (ite_s h).1
                | cons => exact ns
              | _ => exact ns
          | _ => cases as <;> exact ns
        | _ => exact ns
      | min => cases x with
        | int a => cases y with
          | int b => cases as with
            | nil => intro h; exact Option.some.inj h ▸ .min2 a b
            | cons => exact ns
          | _ => exact ns
        | _ => exact ns
      | _ => cases x <;> exact ns

section
variable {h : Heap} {V : Av} {vs : List Value} {v u : Value} {C : Value -> Prop} {D : Value -> Value -> Prop} {G : List Value -> Prop}
@[elab_as_elim] theorem ri {i : Int} (x : Rd h V (.int i) v) (k : ∀ t, C (.int i t)) : C v := by
  obtain ⟨t, rfl⟩ := x; exact k t
@[elab_as_elim] theorem rs {i : Str} (x : Rd h V (.str i) v) (k : ∀ t, C (.str i t)) : C v := by
  obtain ⟨t, rfl⟩ := x; exact k t
@[elab_as_elim] theorem rb {b : Bool} (x : Rd h V (.bool b) v) (k : C (.bool b)) : C v := by
  cases x; exact k
@[elab_as_elim] theorem rn (x : Rd h V .none v) (k : C .none) : C v := by
  cases x; exact k
@[elab_as_elim] theorem rt {n : String} (x : Rd h V (.typ n) v) (k : C (.type n)) : C v := by
  cases x; exact k
@[elab_as_elim] theorem rl {l : List PV} (x : Rd h V (.lst l) v) (k : ∀ a ws, Fine h V a -> h.IsList a ws -> RdL h V l ws.toList -> C (.ref a)) : C v := by
  obtain ⟨a, ws, rfl, f, l1, r1⟩ := x; exact k a ws f l1 r1
@[elab_as_elim] theorem rtu {l : List PV} (x : Rd h V (.tup l) v) (k : ∀ a ws, ¬ V a -> h.IsTuple a ws -> RdL h V l ws.toList -> C (.ref a)) : C v := by
  obtain ⟨a, ws, rfl, f, l1, r1⟩ := x; exact k a ws f l1 r1
@[elab_as_elim] theorem ri2 {i j : Int} (x : Rd h V (.int i) v) (y : Rd h V (.int j) u) (k : ∀ t t', D (.int i t) (.int j t')) : D v u := by
  obtain ⟨t, rfl⟩ := x; obtain ⟨t', rfl⟩ := y; exact k t t'
@[elab_as_elim] theorem rs2 {i j : Str} (x : Rd h V (.str i) v) (y : Rd h V (.str j) u) (k : ∀ t t', D (.str i t) (.str j t')) : D v u := by
  obtain ⟨t, rfl⟩ := x; obtain ⟨t', rfl⟩ := y; exact k t t'
@[elab_as_elim] theorem rl2 {l m : List PV} (x : Rd h V (.lst l) v) (y : Rd h V (.lst m) u) (k : ∀ a ws b xs, h.IsList a ws -> RdL h V l ws.toList -> h.IsList b xs -> RdL h V m xs.toList -> D (.ref a) (.ref b)) : D v u := by
  obtain ⟨a, ws, rfl, _, l1, r1⟩ := x; obtain ⟨b, xs, rfl, _, l2, r2⟩ := y; exact k a ws b xs l1 r1 l2 r2
@[elab_as_elim] theorem rl1 {p : PV} (x : RdL h V [p] vs) (k : ∀ v, Rd h V p v -> G [v]) : G vs := by
  obtain ⟨v, _, rfl, a, b⟩ := RdL_cons.mp x; cases RdL_nil.mp b; exact k v a
@[elab_as_elim] theorem rl1i {i : Int} (x : RdL h V [.int i] vs) (k : ∀ t, G [.int i t]) : G vs :=
  rl1 x fun y_ y => ri (C := fun v => G [v]) y k
@[elab_as_elim] theorem rl1s {i : Str} (x : RdL h V [.str i] vs) (k : ∀ t, G [.str i t]) : G vs :=
  rl1 x fun y_ y => rs (C := fun v => G [v]) y k
@[elab_as_elim] theorem rl1l {l : List PV} (x : RdL h V [.lst l] vs) (k : ∀ a ws, h.IsList a ws -> RdL h V l ws.toList -> G [.ref a]) : G vs :=
  rl1 x fun y_ y => rl (C := fun v => G [v]) y fun a ws y_ => k a ws
@[elab_as_elim] theorem rlc {p : PV} {ps : List PV} (x : RdL h V (p :: ps) vs) (k : ∀ v us, Rd h V p v -> RdL h V ps us -> G (v :: us)) : G vs := by
  obtain ⟨v, _, rfl, a, b⟩ := RdL_cons.mp x; exact k v _ a b
@[elab_as_elim] theorem rl2i {i j : Int} (x : RdL h V [.int i, .int j] vs) (k : ∀ t u, G [.int i t, .int j u]) : G vs :=
  rlc x fun v y_ y z => rl1i (G := fun us => G (v :: us)) z fun u => ri (C := fun v => G [v, .int j u]) y fun t => k t u
@[elab_as_elim] theorem rl3i {i j l : Int} (x : RdL h V [.int i, .int j, .int l] vs) (k : ∀ t u v, G [.int i t, .int j u, .int l v]) : G vs :=
  rlc x fun v y_ y z => rl2i (G := fun us => G (v :: us)) z fun u w => ri (C := fun v => G [v, .int j u, .int l w]) y fun t => k t u w
end
end

section
open PySem PyProof.Rows

noncomputable abbrev NoE : Value -> Shared -> Prop := fun y_ y_ => False
noncomputable def Laid (V : Av) (h : Heap) : Prop := ∀ b, V b -> ∃ o, h.get? b = some o
theorem Laid.ext {V : Av} {s s' : Shared} (x : Laid V s.heap) (e : Ext s s') : Laid V s'.heap := fun b v => let ⟨o, ho⟩ := x b v; ⟨o, e.heap b o ho⟩
theorem Laid.free {V : Av} {h : Heap} (x : Laid V h) {a : Addr} (n : h.get? a = none) : ¬ V a := fun v => by obtain ⟨o, ho⟩ := x a v; rw [n] at ho; cases ho
theorem size_free (h : Heap) : h.get? h.objs.size = none := Heap.get?_none_of_le (Nat.le_refl _)
theorem Laid.new {V : Av} {h : Heap} (x : Laid V h) : ¬ V h.objs.size := x.free (size_free h)

noncomputable abbrev Gives1 (V : Av) (s : Shared) (p : PV) : Value -> Shared -> Prop := fun v s' => Ext s s' /\ Rd s'.heap V p v

section
variable {prog : Program} {w : World} {A : Around} {s : Shared} {V : Av}

theorem rd_int {h : Heap} {i : Int} {t : Tok} : Rd h V (.int i) (.int i t) := Exists.intro t rfl
theorem rd_str {h : Heap} {i : Str} {t : Tok} : Rd h V (.str i) (.str i t) := Exists.intro t rfl
theorem rd_bool {h : Heap} {b : Bool} : Rd h V (.bool b) (.bool b) := Eq.refl _
theorem rd_none {h : Heap} : Rd h V .none .none := Eq.refl _
theorem ext_push {o : Obj} {n : Nat} : Ext s { s with heap := s.heap.push o, toks := n } := Ext.of_heap fun y_ y_ e => Heap.get?_push_of_some _ e
theorem ext_push' {o : Obj} : Ext s { s with heap := s.heap.push o } := ext_push (n := s.toks)
theorem ext_toks {n : Nat} : Ext s { s with toks := n } := Ext.of_heap (h' := s.heap) fun y_ y_ e => e

theorem lit_le_sizeLine : wide <= sizeLine := by decide
theorem lt_wide {n : Nat} (h : n <= wide) : n <= sizeLine := Nat.le_trans h lit_le_sizeLine

theorem rd_newList {ps : List PV} {vs : List Value} (L : Laid V s.heap) (x : RdL s.heap V ps vs) :
    Rd (s.heap.push { cls := .type "list", data := .seq vs.toArray }) V (.lst ps) (.ref s.heap.objs.size) := by
  refine Exists.intro (s.heap.objs.size) ⟨vs.toArray, rfl, ⟨L.new, _, Heap.get?_push_size _ rfl, rfl⟩, ⟨_, Heap.get?_push_size _ rfl, rfl, _, rfl⟩, ?_⟩
  simpa using x.gr Gr.push
theorem rd_newTup {ps : List PV} {vs : List Value} (L : Laid V s.heap) (x : RdL s.heap V ps vs) :
    Rd (s.heap.push { cls := .type "tuple", data := .seq vs.toArray }) V (.tup ps) (.ref s.heap.objs.size) := by
  refine Exists.intro (s.heap.objs.size) ⟨vs.toArray, rfl, L.new, ⟨_, Heap.get?_push_size _ rfl, rfl, _, rfl⟩, ?_⟩
  simpa using x.gr Gr.push

theorem small_natAbs {a : Int} (h : small a = true) : a.natAbs < 2 ^ 63 := by
  unfold small big at h
  simp only [Bool.and_eq_true, decide_eq_true_eq] at h
  rcases Int.natAbs_eq a with e | e
  . exact Int.ofNat_lt.mp (Int.lt_of_le_of_lt (Int.le_of_eq e.symm) h.2)
  . exact Int.ofNat_lt.mp (Int.neg_lt_neg_iff.mp (Int.lt_of_lt_of_le h.1 (Int.le_of_eq e)))
theorem small_lt {a : Int} (h : small a = true) : -(2 ^ 63 : Int) < a /\ a < 2 ^ 63 := by
  unfold small big at h
  simp only [Bool.and_eq_true, decide_eq_true_eq] at h
  exact h

theorem fdiv_road {a b : Int} (h : small b = true) : Builtin.divisionGoesByPylong a b = false := by
  have := small_natAbs h
  unfold Builtin.divisionGoesByPylong
  have hl : b.natAbs.log2 <= 63 := by
    by_cases h0 : b.natAbs = 0
    . rw [h0]; decide
    . exact Nat.le_of_lt_succ ((Nat.log2_lt h0).mpr (Nat.lt_of_lt_of_le this (by decide)))
  have h1 : ¬ ((if (b == 0) = true then 0 else b.natAbs.log2 / 30 + 1) > 300) := by
    split
    . decide
    . exact Nat.not_lt.mpr (Nat.le_trans (Nat.succ_le_succ (Nat.div_le_div_right hl)) (by decide))
  simp only [Bool.and_eq_false_iff, decide_eq_false_iff_not]
  exact .inl h1

theorem list_concat {l b : Addr} {its its2 : Array Value} {Q E : Value -> Shared -> Prop} (hl : s.heap.IsList l its) (hb : s.heap.IsList b its2)
    (h : Q (.ref s.heap.objs.size) { s with heap := s.heap.push { cls := .type "list", data := .seq (its ++ its2) } })
    (hsz : its.size + its2.size <= sizeLine) : wpAny (model prog w) A (binaryOp .Add (.ref l) (.ref b)) Q E s := by
  obtain ⟨⟨cls, dd, data, sl⟩, ho, hc, n, hd⟩ := id hl
  obtain ⟨⟨cls2, dd2, data2, sl2⟩, ho2, hc2, n2, hd2⟩ := id hb
  simp only at hc hd hc2 hd2
  subst hc hd hc2 hd2
  exact concat_meets ⟨_, ho, rfl⟩ ⟨_, ho2, rfl⟩ noFill_list_add seq_list_add PySem.F.slot_list_add PySem.F.entry_list_add (PySem.F.args_list_add_2 _ _) (list_addW l b its its2 n n2 dd dd2 sl sl2 hsz) ⟨ho, ho2, h⟩

theorem mulOk {a b : Int} (h : a.natAbs < 2 ^ 63) (_h' : b.natAbs < 2 ^ 63) : IntMulOk a b := by
  unfold IntMulOk
  have : ¬ Builtin.Int.intBits a > shortFactorBits := by
    have h1 : Builtin.Int.intBits a <= 64 := by
      unfold Builtin.Int.intBits
      split
      . lia
      . rename_i h0
        have h0 : a.natAbs ≠ 0 := by simpa using h0
        have := (Nat.log2_lt h0).mpr (Nat.lt_of_lt_of_le h (by decide : 2 ^ 63 <= 2 ^ 63))
        lia
    have h2 : 64 <= shortFactorBits := by decide
    lia
  simp [this]

theorem pow_ok {u0 w0 : Int} {t u : Tok} (k : (small u0 && decide (0 <= w0) && decide (w0 < 1000)) = true) : wpAny (model prog w) A (binaryOp .Pow (.int u0 t) (.int w0 u)) (Gives1 V s (.int (u0 ^ w0.toNat))) NoE s := by
  simp only [Bool.and_eq_true, decide_eq_true_eq] at k
  exact pow_int_small k.1.2 (by have := k.2; clear k; lia) (Nat.lt_trans (small_natAbs k.1.1) (by decide)) ⟨ext_toks, rd_int⟩
theorem cat_ok {c d : Addr} {vs ws : Array Value} {l m : List PV} (L : Laid V s.heap) (l1 : s.heap.IsList c vs) (l2 : s.heap.IsList d ws) (r1 : RdL s.heap V l vs.toList) (r2 : RdL s.heap V m ws.toList) (k : l.length + m.length <= wide) :
    wpAny (model prog w) A (binaryOp .Add (.ref c) (.ref d)) (Gives1 V s (.lst (l ++ m))) NoE s := by
  have e1 := r1.length
  have e2 := r2.length
  simp only [Array.length_toList] at e1 e2
  refine list_concat l1 l2 ⟨ext_push', ⟨s.heap.objs.size, vs ++ ws, rfl, ⟨L.new, _, Heap.get?_push_size _ rfl, rfl⟩, ⟨_, Heap.get?_push_size _ rfl, rfl, _, rfl⟩, ?_⟩⟩ (by rw [e1, e2]; exact lt_wide k)
  rw [Array.toList_append]
  exact (r1.append r2).gr Gr.push

theorem bin_ok {op : Operator} {x y p : PV} {a b : Value} (L : Laid V s.heap) (h : bin op x y = some p) (ha : Rd s.heap V x a) (hb : Rd s.heap V y b) :
    wpAny (model prog w) A (binaryOp op a b) (Gives1 V s p) NoE s := by
  have H := bin_inv h; clear h
  induction H with
  | addI => refine ri2 ha hb fun y_ y_ => ?_; exact add_int ⟨ext_toks, rd_int⟩
  | subI => refine ri2 ha hb fun y_ y_ => ?_; exact sub_int ⟨ext_toks, rd_int⟩
  | mulI _ _ k => refine ri2 ha hb fun y_ y_ => ?_; exact mul_int ⟨ext_toks, rd_int⟩ (mulOk (small_natAbs (Bool.and_eq_true_iff.mp k).1) (small_natAbs (Bool.and_eq_true_iff.mp k).2))
  | fdv _ _ k m => refine ri2 ha hb fun y_ y_ => ?_; exact floordiv_int k ⟨ext_toks, rd_int⟩ (.inl (fdiv_road m))
  | md _ _ k => refine ri2 ha hb fun y_ y_ => ?_; exact mod_int' k ⟨ext_toks, rd_int⟩
  | pw _ _ k => refine ri2 ha hb fun y_ y_ => ?_; exact pow_ok k
  | addS _ _ k => refine rs2 ha hb fun y_ y_ => ?_; exact add_str (fun t' tk => ⟨ext_toks, rd_str⟩) (lt_wide k)
  | addL _ _ k => refine rl2 ha hb fun y_ y_ y_ y_ l1 r1 l2 r2 => ?_; exact cat_ok L l1 l2 r1 r2 k
end
end

section
open PySem PyProof.Rows
open PySem.SeqAt PySem.MeetsSeq PySem.MeetsSeq2 PySem.MeetsSeq3 PySem.SeqRoads2
open AutoSeq1 (wpAny_loadPart')

theorem isList_fun {h : Heap} {a : Addr} {x y : Array Value} (p : h.IsList a x) (q : h.IsList a y) : x = y := by
  obtain ⟨o, ho, _, n, hd⟩ := p
  obtain ⟨o', ho', _, n', hd'⟩ := q
  rw [ho] at ho'; cases ho'
  rw [hd] at hd'; cases hd'; rfl

theorem peqs_length {f : PV -> PV -> Option Bool} : ∀ {a b : List PV} {r : Bool}, peqs f a b = some r -> a.length = b.length := by
  intro a
  induction a with
  | nil => intro b r h; cases b with
    | nil => rfl
    | cons => exact ns h
  | cons x a ih => intro b r h; cases b with
    | nil => exact ns h
    | cons y b => obtain ⟨_, _, _, h2, _⟩ := peqs_inv h; exact congrArg Nat.succ (ih h2)

theorem peqs_same {h : Heap} {V : Av} {f : PV -> PV -> Option Bool} (hf : ∀ p q v b, Rd h V p v -> Rd h V q v -> f p q = some b -> b = true) :
    ∀ {ps qs : List PV} {vs : List Value} {b : Bool}, RdL h V ps vs -> RdL h V qs vs -> peqs f ps qs = some b -> b = true := by
  intro ps
  induction ps with
  | nil => intro qs vs b x y e; cases qs with
    | nil => exact (Option.some.inj e).symm
    | cons => exact ns e
  | cons p ps ih => intro qs vs b x y e; cases qs with
    | nil => exact ns e
    | cons q qs =>
      obtain ⟨v, r, rfl, x1, x2⟩ := RdL_cons.mp x
      obtain ⟨v', r', e', y1, y2⟩ := RdL_cons.mp y
      cases e'
      obtain ⟨c, d, h1, h2, rfl⟩ := peqs_inv e
      rw [hf p q _ c x1 y1 h1, ih x2 y2 h2]; rfl

theorem pred_ind {P : Nat -> Prop} (h : ∀ n, (∀ m, n = m + 1 -> P m) -> P n) (n : Nat) : P n := by
  induction n with
  | zero => exact h 0 fun m e => nomatch e
  | succ n ih => exact h (n + 1) fun m e => Nat.succ.inj e ▸ ih
theorem peq_same {h : Heap} {V : Av} (n : Nat) : ∀ (p q : PV) (v : Value) (b : Bool), Rd h V p v -> Rd h V q v -> peq n p q = some b -> b = true := by
  induction n using pred_ind with | h n ih => ?_
  intro p q v b x y e
  have H := peq_inv e; clear e
  induction H with
  | ii => obtain ⟨t, rfl⟩ := x; obtain ⟨u, e'⟩ := y; injection e' with e'; subst e'; exact beq_self_eq_true _
  | ss => obtain ⟨t, rfl⟩ := x; obtain ⟨u, e'⟩ := y; injection e' with e'; subst e'; exact beq_self_eq_true _
  | ll _ _ _ _ e =>
    obtain ⟨a, vs, rfl, _, l1, r1⟩ := x
    obtain ⟨a', ws, e', _, l2, r2⟩ := y
    injection e' with e'; subst e'
    have e3 := isList_fun l1 l2
    subst e3
    rw [if_pos (r1.length.symm.trans r2.length)] at e
    exact peqs_same (ih _ rfl) r1 r2 e

theorem peqs_at {f : PV -> PV -> Option Bool} : ∀ {a b : List PV} {r : Bool}, peqs f a b = some r -> ∃ e : Nat -> Bool, (∀ j p q, a[j]? = some p -> b[j]? = some q -> f p q = some (e j)) /\ r = (List.range a.length).all e := by
  intro a
  induction a with
  | nil => intro b r h; cases b with
    | nil => exact ⟨fun y_ => true, fun j p q e => ns e, (Option.some.inj h).symm⟩
    | cons => exact ns h
  | cons p a ih => intro b r h; cases b with
    | nil => exact ns h
    | cons q b =>
      obtain ⟨x, y, hx, hy, rfl⟩ := peqs_inv h
      obtain ⟨e, h1, rfl⟩ := ih hy
      refine ⟨fun j => Nat.casesOn j x e, ?_, ?_⟩
      . intro j p' q' e1 e2
        cases j with
        | zero => cases e1; cases e2; exact hx
        | succ j => exact h1 j p' q' e1 e2
      . simp only [List.length_cons, List.range_succ_eq_map, List.all_cons, List.all_map, Function.comp_def]
        rfl

section
variable {prog : Program} {w : World} {A : Around} {s : Shared} {V : Av}

theorem eq_of_rc {A : Around} (n : Nat) {p q : PV} {u v : Value} {b : Bool} (e : peq n p q = some b) (x : Rd s.heap V p u) (y : Rd s.heap V q v) (z : RcAt A s u v b) : EqAt A s u v b := by
  by_cases huv : u = v
  . subst huv
    rw [peq_same n p q u b x y e]
    exact EqAt.same u
  . have H := peq_inv e; clear e
    induction H with
    | ii => refine ri2 x y fun y_ y_ => ?_; exact EqAt.int_int _ _ _ _
    | ss => refine rs2 x y fun y_ y_ => ?_; exact EqAt.str_str _ _ _ _
    | ll =>
      obtain ⟨a, vs, rfl, _, l1, r1⟩ := x
      obtain ⟨a', ws, rfl, _, l2, r2⟩ := y
      exact EqAt.of_refs (fun k => huv (by rw [k])) z

theorem at_get {h : Heap} {ps : List PV} {vs : Array Value} (r : RdL h V ps vs.toList) (j : Nat) (hj : j < vs.size) : ∃ p, ps[j]? = some p /\ Rd h V p vs[j] := by
  have hl : j < ps.length := by rw [<- r.length]; exact hj
  obtain ⟨v, hv, d⟩ := r.get (List.getElem?_eq_getElem hl)
  have g : vs[j] = v := by simpa [hj] using hv
  exact ⟨_, List.getElem?_eq_getElem hl, g ▸ d⟩

theorem two_lists {A : Around} {n : Nat} {ps qs : List PV} {vs ws : Array Value} {b : Bool} (e : (if ps.length = qs.length then peqs (peq n) ps qs else some false) = some b) (r1 : RdL s.heap V ps vs.toList) (r2 : RdL s.heap V qs ws.toList)
    (he : ∀ p q u v b, peq n p q = some b -> Rd s.heap V p u -> Rd s.heap V q v -> EqAt A s u v b) {G : Prop}
    (same : vs.size = ws.size -> ∀ f : Nat -> Bool, (∀ (j : Nat) (h : j < vs.size) (h' : j < ws.size), EqAt A s vs[j] ws[j] (f j)) -> b = (List.range vs.size).all f -> G) (not : (vs.size != ws.size) = true -> b = false -> G) : G := by
  have e1 : vs.size = ps.length := r1.length
  have e2 : ws.size = qs.length := r2.length
  by_cases hl : ps.length = qs.length
  . rw [if_pos hl] at e
    obtain ⟨f, h1, k⟩ := peqs_at e
    refine same (by rw [e1, e2, hl]) f (fun j h1' h2' => ?_) (by rw [e1]; exact k)
    obtain ⟨p, hp, d1⟩ := at_get r1 j h1'
    obtain ⟨q, hq, d2⟩ := at_get r2 j h2'
    exact he _ _ _ _ _ (h1 j p q hp hq) d1 d2
  . rw [if_neg hl] at e
    exact not (bne_iff_ne.mpr (by rw [e1, e2]; exact hl)) (Option.some.inj e).symm

theorem cl_room {A : Around} {n : Nat} (hu : A.units + n < 9000) : A.units < cLine := Nat.lt_of_le_of_lt (Nat.le_add_right _ n) (Nat.lt_trans hu (by decide))
theorem rcAt_ok (n : Nat) : ∀ {A : Around} {p q : PV} {u v : Value} {b : Bool}, A.units + n < 9000 -> peq n p q = some b -> Rd s.heap V p u -> Rd s.heap V q v -> RcAt A s u v b := by
  induction n using pred_ind with | h n ih => ?_
  intro A p q u v b hu e x y
  have H := peq_inv e; clear e
  induction H with
  | ii => refine ri2 x y fun y_ y_ => ?_; exact RcAt.int_int _ _ _ _
  | ss => refine rs2 x y fun y_ y_ => ?_; exact RcAt.str_str _ _ _ _
  | ll n _ _ _ e =>
    have hu' : A.units + 1 + n < 9000 := (Nat.add_right_comm _ 1 n) ▸ hu
    refine rl2 x y fun y_ y_ y_ y_ l1 r1 l2 r2 => ?_
    exact two_lists e r1 r2 (fun p q u v b e x y => eq_of_rc n e x y (ih n rfl (A := _) hu' e x y)) (fun hs f hf hb => hb ▸ RcAt.lists l1 l2 hs (cl_room hu) hf) (fun hs hb => hb ▸ RcAt.lists_lengths l1 l2 hs (cl_room hu))

theorem eqAt_ok (n : Nat) {A : Around} {p q : PV} {u v : Value} {b : Bool} (hu : A.units + n < 9000) (e : peq n p q = some b) (x : Rd s.heap V p u) (y : Rd s.heap V q v) : EqAt A s u v b :=
  eq_of_rc n e x y (rcAt_ok n hu e x y)

theorem rcNe_ok {A : Around} (n : Nat) {p q : PV} {u v : Value} {b : Bool} (hu : A.units + n < 9000) (e : peq n p q = some b) (x : Rd s.heap V p u) (y : Rd s.heap V q v) : RcNeAt A s u v (!b) := by
  have H := peq_inv e; clear e
  induction H with
  | ii => refine ri2 x y fun y_ y_ => ?_; exact RcNeAt.int_int _ _ _ _
  | ss => refine rs2 x y fun y_ y_ => ?_; exact RcNeAt.str_str _ _ _ _
  | ll n _ _ _ e =>
    refine rl2 x y fun y_ y_ y_ y_ l1 r1 l2 r2 => ?_
    have hu' : A.units + 1 + n < 9000 := (Nat.add_right_comm _ 1 n) ▸ hu
    exact two_lists e r1 r2 (fun p q u v b e x y => eqAt_ok n (A := _) hu' e x y) (fun hs f hf hb => hb ▸ RcNeAt.lists l1 l2 hs (cl_room hu) hf) (fun hs hb => hb ▸ RcNeAt.lists_lengths l1 l2 hs (cl_room hu))

theorem ints_at : ∀ {vs : List Value} {ns : List Int} {i : Nat}, IntsAre vs ns -> (h : i < ns.length) -> ∃ t, vs[i]? = some (.int (ns[i]'h) t)
  | _, _, 0, .cons n t _, _ => ⟨t, rfl⟩
  | _, _, i + 1, .cons n t r, h => by
    obtain ⟨u, e⟩ := ints_at r (i := i) (by simpa using h)
    exact ⟨u, by simpa using e⟩

set_option maxHeartbeats 2000000 in
theorem le_loop (l b : Addr) (items items2 : Array Value) (n n2 : Nat) (dd dd2 : Option Addr) (sl sl2 : Array (Option Value)) (ns ms : List Int) (I : IntsAre items.toList ns) (J : IntsAre items2.toList ms) (k : Nat) :
    ∀ i : Nat, items.size - i = k -> i <= items.size -> i <= items2.size -> Meets (Builtin.«list.__eq__.loop» ⟨[.ref l, .ref b, rawInt i, rawInt 1], []⟩)
      (fun A R s => s.heap.get? l = some { cls := .type "list", dict := dd, data := .seq items n, slots := sl } /\ s.heap.get? b = some { cls := .type "list", dict := dd2, data := .seq items2 n2, slots := sl2 } /\
        A.units < 9000 /\ R (.ok (.ret (.bool (leInts (ns.drop i) (ms.drop i))))) s) := by
  have e1 : items.size = ns.length := by simpa using I.length
  have e2 : items2.size = ms.length := by simpa using J.length
  induction k with
  | zero =>
    intro i hk hi hi' prog w A R s h
    obtain ⟨hp, g, d, tk, os⟩ := s; obtain ⟨hl, hb, hu, h⟩ := h
    wp_walk using wpAny_loadPart' hl, wpAny_loadPart' hb
    have hk' := Nat.le_of_sub_eq_zero hk
    have hi1 : items[((i : Nat) : Int).toNat]? = none := Array.getElem?_eq_none (xs := items) (i := i) hk'
    have hd : ns.drop i = [] := List.drop_eq_nil_of_le (e1 ▸ hk')
    rw [hd, leInts_n] at h
    rw [hi1]
    wp_walk using wpAny_loadPart' hl, wpAny_loadPart' hb
    have hle : decide (items.size <= items2.size) = true := decide_eq_true (Nat.le_trans hk' hi')
    show R (.ok (.ret (.bool (decide (items.size <= items2.size))))) _
    rw [hle]; exact h
  | succ k ih =>
    intro i hk hi hi' prog w A R s h
    obtain ⟨hp, g, d, tk, os⟩ := s; obtain ⟨hl, hb, hu, h⟩ := h
    wp_walk using wpAny_loadPart' hl, wpAny_loadPart' hb
    have hlt := n_lt hk
    have hn : i < ns.length := e1 ▸ hlt
    have hi1 : items[((i : Nat) : Int).toNat]? = some items[i] := by simp [hlt]
    rw [hi1]
    by_cases hlt2 : i < items2.size
    . have hi2 : items2[((i : Nat) : Int).toNat]? = some items2[i] := by simp [hlt2]
      rw [hi2]
      have hm : i < ms.length := e2 ▸ hlt2
      obtain ⟨t1, g1⟩ := ints_at I (i := i) hn
      obtain ⟨t2, g2⟩ := ints_at J (i := i) hm
      have g1 : items[i] = .int ns[i] t1 := by simpa [hlt] using g1
      have g2 : items2[i] = .int ms[i] t2 := by simpa [hlt2] using g2
      have d1 : ns.drop i = ns[i] :: ns.drop (i + 1) := by simp
      have d2 : ms.drop i = ms[i] :: ms.drop (i + 1) := by simp
      rw [d1, d2, leInts_c] at h
      rw [g1, g2]
      refine wpAny_bind ((EqGives.int _ _ _ _).at _ _ prog w _ _ ?_)
      by_cases hq : ns[i] = ms[i]
      . rw [if_pos hq] at h
        rw [hq, beq_self_eq_true]
        wp_walk
        rw [show ((i : Int) + 1) = ((i + 1 : Nat) : Int) from by push_cast; rfl]
        exact ⟨plainId_quiet plain_eq_loop _, codeAny_builtin entry_eq_loop (by
          rw [Around.under_plainId plain_eq_loop _]
          exact ih (i + 1) (n_nx hk) hlt hlt2 prog w A R _ ⟨hl, hb, hu, h⟩)⟩
      . rw [if_neg hq] at h
        rw [beq_eq_false_iff_ne.mpr hq]
        wp_walk using wpAny_loadPart' hl, wpAny_loadPart' hb
        rw [hi1, hi2, g1, g2]
        refine wpAny_bind (m := richCompare .LtE _ _) (PyProof.Rows.le_int (A := A.in1) ?_)
        exact wpAny_pure h
    . have hge := Nat.le_of_not_lt hlt2
      have hi2 : items2[((i : Nat) : Int).toNat]? = none := Array.getElem?_eq_none (xs := items2) (i := i) hge
      rw [hi2]
      wp_walk using wpAny_loadPart' hl, wpAny_loadPart' hb
      have hle : decide (items.size <= items2.size) = false := decide_eq_false fun q => hlt2 (Nat.lt_of_lt_of_le hlt q)
      have d1 : ns.drop i = ns[i] :: ns.drop (i + 1) := by simp
      have d2 : ms.drop i = [] := List.drop_eq_nil_of_le (e2 ▸ hge)
      rw [d1, d2, leInts_z] at h
      show R (.ok (.ret (.bool (decide (items.size <= items2.size))))) _
      rw [hle]; exact h

theorem list_le (l b : Addr) (items items2 : Array Value) (n n2 : Nat) (dd dd2 : Option Addr) (sl sl2 : Array (Option Value)) (ns ms : List Int) (I : IntsAre items.toList ns) (J : IntsAre items2.toList ms) :
    Meets (Builtin.«list.__le__» ⟨[.ref l, .ref b], []⟩)
      (fun A R s => s.heap.get? l = some { cls := .type "list", dict := dd, data := .seq items n, slots := sl } /\ s.heap.get? b = some { cls := .type "list", dict := dd2, data := .seq items2 n2, slots := sl2 } /\
        A.units < 9000 /\ R (.ok (.ret (.bool (leInts ns ms)))) s) := by
  intro prog w A R s h
  obtain ⟨hp, g, d, tk, os⟩ := s; obtain ⟨hl, hb, he, h⟩ := h
  have f3 := AutoSeq1.sub_list_list
  wp_walk using wpAny_loadPart' hl, wpAny_loadPart' hb
  exact ⟨plainId_quiet plain_eq_loop _, codeAny_builtin entry_eq_loop (by
    rw [Around.under_plainId plain_eq_loop _]
    exact le_loop l b items items2 n n2 dd dd2 sl sl2 ns ms I J _ 0 rfl (Nat.zero_le _) (Nat.zero_le _) prog w A R _ ⟨hl, hb, he, by simpa using h⟩)⟩

theorem le_lists {l b : Addr} {items items2 : Array Value} {ns ms : List Int} {Q E : Value -> Shared -> Prop} (hl : s.heap.IsList l items) (hb : s.heap.IsList b items2) (I : IntsAre items.toList ns) (J : IntsAre items2.toList ms)
    (hu : A.units < 9000) (h : Q (.bool (leInts ns ms)) s) : wpAny (model prog w) A (compareOp .LtE (.ref l) (.ref b)) Q E s := by
  refine cps fun U J => ?_
  obtain ⟨⟨cls, dd, data, sl⟩, ho, hc, n, hd⟩ := id hl
  obtain ⟨⟨cls2, dd2, data2, sl2⟩, ho2, hc2, n2, hd2⟩ := id hb
  refine J ?_; clear J U
  simp only at hc hd hc2 hd2
  subst hc hd hc2 hd2
  exact richCompare_meets_room (op := .LtE) ⟨_, ho, rfl⟩ ⟨_, ho2, rfl⟩ PySem.F.slot_list_le PySem.F.entry_list_le (PySem.F.args_list_le_2 _ _) (list_le l b items items2 n n2 dd dd2 sl sl2 ns ms I J)
    ⟨ho, ho2, hu, show Value.bool (leInts ns ms) ≠ Value.notImplemented /\ Q (.bool (leInts ns ms)) s from ⟨(fun x => nomatch x), h⟩⟩ (Nat.lt_trans hu (by decide))

noncomputable abbrev IsB (s : Shared) (b : Bool) : Value -> Shared -> Prop := fun v s' => v = .bool b /\ Ext s s'

theorem any_contains (a : Int) : ∀ l : List Int, (l.any fun x => x == a) = l.contains a
  | [] => rfl
  | x :: l => by
    rw [List.any_cons, List.contains_cons, any_contains a l, Bool.beq_comm]

theorem isn_bool {a b : Bool} : wpAny (model prog w) A (compareOp .IsNot (.bool a) (.bool b)) (IsB s (!(a == b))) NoE s := by
  show wpAny (model prog w) A (do return Value.bool (!(<- isSame _ _))) _ _ _
  exact wpAny_bind (wpAny_of_eq (isSame_plain rfl) (wpAny_pure ⟨by cases a <;> cases b <;> rfl, .refl⟩))
theorem type_beq {a b : String} : (Value.type a == Value.type b) = (a == b) := by
  by_cases e : a = b
  . subst e; simp
  . have : (Value.type a == Value.type b) = false := by simpa using e
    rw [this, beq_eq_false_iff_ne.mpr e]
theorem cmp_ok {op : CmpOp} {x y : PV} {a b : Value} {c : Bool} (hu : A.units < 8000) (h : cmp op x y = some c) (ha : Rd s.heap V x a) (hb : Rd s.heap V y b) :
    wpAny (model prog w) A (compareOp op a b) (IsB s c) NoE s := by
  have H := cmp_inv h; clear h
  induction H with
  | lt => refine ri2 ha hb fun y_ y_ => ?_; exact PyProof.Rows.lt_int ⟨rfl, .refl⟩
  | le => refine ri2 ha hb fun y_ y_ => ?_; exact PyProof.Rows.le_int ⟨rfl, .refl⟩
  | gt => refine ri2 ha hb fun y_ y_ => ?_; exact PyProof.Rows.gt_int ⟨rfl, .refl⟩
  | eqB => refine rb ha ?_; refine rb hb ?_; exact RcAt.bool_bool _ _ prog w _ _ ⟨rfl, .refl⟩
  | neB => refine rb ha ?_; refine rb hb ?_; exact RcNeAt.bool_bool _ _ prog w _ _ ⟨rfl, .refl⟩
  | eq _ _ _ k => exact rcAt_ok 8 (Nat.lt_trans (Nat.add_lt_add_right hu 8) (by decide)) k ha hb prog w _ _ ⟨rfl, .refl⟩
  | ne _ _ _ k => exact rcNe_ok 8 (Nat.lt_trans (Nat.add_lt_add_right hu 8) (by decide)) k ha hb prog w _ _ ⟨rfl, .refl⟩
  | leL _ _ m n k' k => refine rl2 ha hb fun y_ y_ y_ y_ l1 r1 l2 r2 => ?_; exact le_lists l1 l2 (r1.ints k') (r2.ints k) (Nat.lt_trans hu (by decide)) ⟨rfl, .refl⟩
  | isB => refine rb ha ?_; refine rb hb ?_; exact is_bool ⟨rfl, .refl⟩
  | isnB => refine rb ha ?_; exact rb hb isn_bool
  | isN => refine rn ha ?_; refine rn hb ?_; exact is_none ⟨rfl, .refl⟩
  | isnN => refine rn ha ?_; refine rn hb ?_; exact isNot_none ⟨rfl, .refl⟩
  | isI => refine rn hb ?_; refine ri ha fun y_ => ?_; exact is_none ⟨rfl, .refl⟩
  | isnI => refine rn hb ?_; refine ri ha fun y_ => ?_; exact isNot_none ⟨rfl, .refl⟩
  | isS => refine rn hb ?_; refine rs ha fun y_ => ?_; exact is_none ⟨rfl, .refl⟩
  | isnS => refine rn hb ?_; refine rs ha fun y_ => ?_; exact isNot_none ⟨rfl, .refl⟩
  | isnT => refine rt ha ?_; refine rt hb ?_; exact isnot_type ⟨by rw [type_beq], .refl⟩
  | inI _ _ n k => refine ri ha fun y_ => ?_; refine rl hb fun y_ vs y_ l1 r1 => ?_; exact in_list_ints (vs := vs.toList) l1 (r1.ints k) ⟨by rw [any_contains], .refl⟩
  | ninI _ _ n k => refine ri ha fun y_ => ?_; refine rl hb fun y_ vs y_ l1 r1 => ?_; exact notin_list_ints (vs := vs.toList) l1 (r1.ints k) ⟨by rw [any_contains], .refl⟩
  | inS => refine rs2 ha hb fun y_ y_ => ?_; exact SB.contains ⟨rfl, .refl⟩
  | ninS => refine rs2 ha hb fun y_ y_ => ?_; exact SB.notContains ⟨rfl, .refl⟩
end
end

section
open PySem PyProof.Rows
open PySem.SeqAt
open AutoSeq1 (wpAny_loadPart')

theorem RdL.strs {h : Heap} {V : Av} : ∀ {ps : List PV} {vs : List Value} {ns : List Str}, RdL h V ps vs -> strs? ps = some ns -> StrsAre vs ns
  | [], _, _, x, e => by rw [RdL_nil.mp x]; cases (show some [] = some _ from e); exact .nil
  | .str i :: ps, _, _, x, e => by
    obtain ⟨v, r, rfl, a, b⟩ := RdL_cons.mp x
    obtain ⟨ns, hn, rfl⟩ := Option.map_eq_some_iff.mp (show (strs? ps).map (i :: ·) = some _ from e)
    obtain ⟨t, rfl⟩ := a
    exact .cons i t (RdL.strs b hn)
  | .none :: _, _, _, _, e | .bool _ :: _, _, _, _, e | .int _ :: _, _, _, _, e | .typ _ :: _, _, _, _, e | .tup _ :: _, _, _, _, e | .lst _ :: _, _, _, _, e
  | .rng _ _ _ :: _, _, _, _, e => nomatch (show (Option.none : Option (List Str)) = some _ from e)

theorem minInts_mem : ∀ {l : List Int} {m : Int}, minInts l = some m -> m ∈ l /\ ∀ a ∈ l, m <= a
  | [a], m, e => by cases (show some a = some m from e); simp
  | a :: b :: r, m, e => by
    rw [minInts_c] at e
    . obtain ⟨k, hk, rfl⟩ := Option.map_eq_some_iff.mp e
      obtain ⟨h1, h2⟩ := minInts_mem hk
      split
      . refine ⟨List.mem_cons_self, fun c hc => ?_⟩
        rcases List.mem_cons.mp hc with rfl | hc
        . exact Int.le_refl _
        . exact Int.le_of_lt (Int.lt_of_lt_of_le (by assumption) (h2 c hc))
      . refine ⟨List.mem_cons_of_mem _ h1, fun c hc => ?_⟩
        rcases List.mem_cons.mp hc with rfl | hc
        . exact Int.not_lt.mp (by assumption)
        . exact h2 c hc

section
variable {prog : Program} {w : World} {A : Around} {s : Shared} {V : Av}

noncomputable def bval : BF -> Value
  | .len => .builtin "len"
  | .range => .type "range"
  | .list => .type "list"
  | .min => .builtin "min"
  | .sum => .builtin "sum"
  | .abs => .builtin "abs"
  | .chr => .builtin "chr"
  | .ord => .builtin "ord"
  | .type => .type "type"

theorem tiny_lt {a : Int} (h : tiny a = true) : -1099511627776 < a /\ a < 1099511627776 := by
  unfold tiny at h
  simpa only [Bool.and_eq_true, decide_eq_true_eq] using h
theorem tiny_small {a : Int} (h : tiny a = true) : small a = true := by
  have := tiny_lt h
  unfold small big
  simp only [Bool.and_eq_true, decide_eq_true_eq]
  exact ⟨Int.lt_trans (by decide) this.1, Int.lt_trans this.2 (by decide)⟩
theorem sub1 {a b : Int} (h : a < b) : 0 <= b - a - 1 := Int.le_sub_one_of_lt (Int.sub_pos_of_lt h)
theorem rangeSize_nonneg {a b c : Int} : 0 <= Builtin.Range.rangeSize a b c := by
  unfold Builtin.Range.rangeSize
  split
  . split
    . exact Int.add_nonneg (Int.ediv_nonneg (sub1 (by assumption)) (Int.le_of_lt (by assumption))) (by decide)
    . exact Int.le_refl 0
  . rename_i hc
    split
    . exact Int.add_nonneg (Int.ediv_nonneg (sub1 (by assumption)) (Int.neg_nonneg_of_nonpos (Int.not_lt.mp hc))) (by decide)
    . exact Int.le_refl 0
noncomputable abbrev Tn (a : Int) : Prop := -1099511627776 < a /\ a < 1099511627776
theorem rs_le {a b c : Int} (h1 : Tn a) (h2 : Tn b) (h : a < b) : (b - a - 1) / c + 1 <= 2199023255560 := by
  have := Int.ediv_le_self (a := b - a - 1) c (sub1 h)
  have : b - a - 1 <= 2199023255552 := by have := h1.1; have := h2.2; omega
  omega
theorem rangeSize_le {a b c : Int} (ha : tiny a = true) (hb : tiny b = true) : Builtin.Range.rangeSize a b c <= 2199023255560 := by
  have h1 := tiny_lt ha
  have h2 := tiny_lt hb
  unfold Builtin.Range.rangeSize
  split
  . split
    . exact rs_le h1 h2 (by assumption)
    . decide
  . split
    . exact rs_le h2 h1 (by assumption)
    . decide
theorem tw {a : Int} (h : Tn a) : -2 ^ 63 <= a /\ a < 2 ^ 63 := ⟨Int.le_of_lt (Int.lt_trans (by decide) h.1), Int.lt_trans h.2 (by decide)⟩
theorem tw2 {a d : Int} (h : Tn a) (e : -1099511627777 < d /\ d < 1099511627777) : -2 ^ 63 <= a + d /\ a + d < 2 ^ 63 :=
  ⟨Int.le_of_lt (Int.lt_trans (by decide) (Int.add_lt_add h.1 e.1)), Int.lt_trans (Int.add_lt_add h.2 e.2) (by decide)⟩
theorem small_range {a b c : Int} (ha : tiny a = true) (hb : tiny b = true) (hc : tiny c = true) : Builtin.Range.small a b c = true := by
  have h2 := tiny_lt hb
  have h3 := tiny_lt hc
  have h4 := rangeSize_nonneg (a := a) (b := b) (c := c)
  have h5 := rangeSize_le (c := c) ha hb
  unfold Builtin.Range.small Builtin.Range.rangeFitsLong
  simp only [Bool.and_eq_true, Bool.or_eq_true, decide_eq_true_eq]
  refine ⟨⟨⟨⟨tw (tiny_lt ha), tw h2⟩, tw h3⟩, Int.le_trans (by decide) h4, Int.lt_of_le_of_lt h5 (by decide)⟩, ?_⟩
  right
  split <;> simp only [Bool.and_eq_true, decide_eq_true_eq] <;> exact tw2 h2 ⟨by omega, by omega⟩

theorem sum_ints {l : Addr} {items : Array Value} {ns : List Int} {Q E : Value -> Shared -> Prop} (hh : A.handled = none) (hl : s.heap.IsList l items) (hi : IntsAre items.toList ns)
    (h : ∀ h' tk t, (∀ b o, s.heap.get? b = some o -> h'.get? b = some o) -> Q (.int ns.sum t) { s with heap := h', toks := tk }) :
    wpAny (model prog w) A (call (.builtin "sum") [.ref l]) Q E s := by
  have hall : AllInts items := by simpa using hi.allInts
  obtain ⟨xs, rfl⟩ := hall.items
  have e : xs.toList.map (·.1) = ns := by rw [<- nums_intItems]; exact hi.numsOf
  refine call_sum_walkG (iter_intList hl fun s₂ e' st hfp hlI => ?_)
  subst e'
  refine ⟨_, _, _, _, _, _, numAt xs, rfl, Walks.list (A := A.in1) hh _ l hlI (intItems xs), st, hfp, (fun y_ y_ => intItems_at), fun h' tk t' hk => ?_⟩
  have := h h' tk t' (old_kept hk)
  rw [show (intItems xs).size = xs.size from by simp [intItems], preSum_eq, List.take_of_length_le (by simp), e]
  exact this

theorem min_ints {l : Addr} {items : Array Value} {ns : List Int} {m : Int} {Q E : Value -> Shared -> Prop} (hh : A.handled = none) (hl : s.heap.IsList l items) (hi : IntsAre items.toList ns) (hm : minInts ns = some m)
    (h : ∀ h' tk t, (∀ b o, s.heap.get? b = some o -> h'.get? b = some o) -> Q (.int m t) { s with heap := h', toks := tk }) :
    wpAny (model prog w) A (call (.builtin "min") [.ref l]) Q E s := by
  have hall : AllInts items := by simpa using hi.allInts
  obtain ⟨xs, rfl⟩ := hall.items
  have e : xs.toList.map (·.1) = ns := by rw [<- nums_intItems]; exact hi.numsOf
  obtain ⟨m1, m2⟩ := minInts_mem hm
  have hlen : xs.size = ns.length := by rw [<- e]; simp
  have hsz : 0 < xs.size := by rw [hlen]; exact List.length_pos_of_mem m1
  refine min_intList hh hl hsz fun v h' tk hv hk => ?_
  obtain ⟨t, rfl⟩ := intItems_at hv
  obtain ⟨h1, h2⟩ := argBest_lt (numAt xs) (xs.size - 1)
  have hin : numAt xs (argBest (fun i j => decide (numAt xs i < numAt xs j)) (xs.size - 1)) ∈ ns := by
    rw [numAt_eq, e]; exact getD_mem (by rw [<- hlen]; exact Nat.lt_of_le_of_lt h1 (Nat.sub_lt hsz Nat.one_pos))
  have hle := m2 _ hin
  obtain ⟨j, hj, hjm⟩ := mem_getD m1
  have hge := h2 j (Nat.le_sub_one_of_lt (by rw [hlen]; exact hj))
  rw [numAt_eq xs j, e, hjm] at hge
  have := h h' tk t hk
  rw [show m = numAt xs (argBest (fun i j => decide (numAt xs i < numAt xs j)) (xs.size - 1)) from Int.le_antisymm hle hge] at this
  exact this

theorem rd_rng {h : Heap} {a b c : Int} {t u v : Tok} (L : Laid V h) (hs : Builtin.Range.small a b c = true) :
    Rd (h.push { cls := .type "range", data := .fields #[.int a t, .int b u, .int c v] }) V (.rng a b c) (.ref h.objs.size) := by
  exact Exists.intro (_) ⟨t, u, v, rfl, L.new, Heap.get?_push_size _ rfl, hs⟩

theorem rngList_rd {h : Heap} {a c : Int} : ∀ {n : Nat} {vs : List Value}, vs.length = n -> (∀ (i : Nat) (hi : i < vs.length), ∃ t, vs[i] = Value.int (a + i * c) t) -> RdL h V ((List.range n).map fun (i : Nat) => PV.int (a + c * (i : Int))) vs := by
  intro n
  induction n with
  | zero => intro vs e _; rw [List.length_eq_zero_iff.mp e]; exact RdL.nil
  | succ n ih =>
    intro vs e hv
    have hn : n < vs.length := by rw [e]; exact Nat.lt_succ_self n
    have hd : vs = vs.take n ++ [vs[n]] := by
      rw [List.take_append_getElem]; exact (List.take_of_length_le (Nat.le_of_eq e)).symm
    rw [hd, List.range_succ, List.map_append]
    refine (ih (by rw [List.length_take]; exact Nat.min_eq_left (Nat.le_of_lt hn)) fun i hi => ?_).append ?_
    . simp only [List.getElem_take]
      exact hv i (Nat.lt_of_lt_of_le hi (List.length_take_le' _ _))
    . obtain ⟨t, ht⟩ := hv n hn
      rw [ht]
      refine RdL.cons ?_ RdL.nil
      exact Exists.intro t (by rw [Int.mul_comm])

theorem wide_int {n : Nat} (h : n <= wide) : (n : Int) < 2 ^ 63 := Int.ofNat_lt.mpr (Nat.lt_of_le_of_lt h (by decide : wide < 2 ^ 63))
theorem list_ok {V' : Av} {a b c : Int} {v : Value} (R : Room 0 A) (L : Laid V s.heap) (hl : (rngList a b c).length <= wide) (ha : Rd s.heap V' (.rng a b c) v) :
    wpAny (model prog w) A (call (bval .list) [v]) (Gives1 V s (.lst (rngList a b c))) NoE s := by
  refine cps fun U J => ?_
  obtain ⟨r, t, u, v, rfl, _, hr, hs⟩ := ha
  refine J ?_; clear J U
  have hl' : (Builtin.Range.rangeSize a b c).toNat <= wide := by simpa [rngList] using hl
  have hnn : Builtin.Range.rangeSize a b c = ((Builtin.Range.rangeSize a b c).toNat : Int) := (Int.toNat_of_nonneg rangeSize_nonneg).symm
  refine call_list_range R.handled hr hs hnn (lt_wide hl') fun h' tk acc' c' hk hg hit => ⟨Ext.of_heap hk, ⟨_, acc', rfl, ⟨L.new, _, hg, rfl⟩, ⟨_, hg, rfl, _, rfl⟩, ?_⟩⟩
  refine rngList_rd (by simpa using hit.1) fun i hi => ?_
  exact hit.2 i _ (by simp at hi; simp [hi])
theorem bf_ok {V' : Av} {f : BF} {as : List PV} {p : PV} {vs : List Value} (R : Room 0 A) (L : Laid V s.heap) (h : bf f as = some p) (ha : RdL s.heap V' as vs) :
    wpAny (model prog w) A (call (bval f) vs) (Gives1 V s p) NoE s := by
  have H := bf_inv h; clear h
  induction H with
  | lenL l hl => refine rl1l ha fun y_ ws l1 r1 => ?_; exact PyProof.Rows.len_list l1 (wide_int ((show ws.size = l.length from r1.length) ▸ hl)) ⟨ext_toks, (show ws.size = l.length from r1.length) ▸ rd_int⟩
  | lenS l hl => refine rl1s ha fun y_ => ?_; exact PyProof.Rows.len_str (Int.not_le.mpr (wide_int hl)) ⟨ext_toks, rd_int⟩
  | r1 b hb => refine rl1i ha fun y_ => ?_; exact call_range_1 ⟨ext_push, rd_rng L (small_range (by decide) hb (by decide))⟩
  | r2 a b hb => refine rl2i ha fun y_ y_ => ?_; exact call_range_2 ⟨ext_push, rd_rng L (small_range (Bool.and_eq_true_iff.mp hb).1 (Bool.and_eq_true_iff.mp hb).2 (by decide))⟩
  | r3 a b c hb =>
    simp only [Bool.and_eq_true, decide_eq_true_eq] at hb
    refine rl3i ha fun y_ y_ y_ => ?_; exact PySem.call_range_3 hb.2 ⟨ext_push, rd_rng L (small_range hb.1.1.1 hb.1.1.2 hb.1.2)⟩ (.inl (fdiv_road (tiny_small hb.1.2)))
  | list a b c hl => refine rl1 ha fun y_ ha => ?_; exact list_ok R L hl ha
  | min2 a b =>
    refine rl2i ha fun y_ y_ => ?_; refine min_two_ints R.handled fun h' tk hk => ?_
    split <;> exact ⟨Ext.of_heap hk, rd_int⟩
  | minL l n m hn hm => refine rl1l ha fun y_ ws l1 r1 => ?_; exact min_ints R.handled l1 (r1.ints hn) hm fun h' tk t hk => ⟨Ext.of_heap hk, rd_int⟩
  | sum l n hn => refine rl1l ha fun y_ ws l1 r1 => ?_; exact sum_ints R.handled l1 (r1.ints hn) fun h' tk t hk => ⟨Ext.of_heap hk, rd_int⟩
  | abs a => refine rl1i ha fun y_ => ?_; exact call_abs_int fun u tk => ⟨ext_toks, rd_int⟩
  | chr a hb => refine rl1i ha fun y_ => ?_; exact chr_of_range hb.1 hb.2 ⟨ext_toks, rd_str⟩
  | ord s hb => refine rl1s ha fun y_ => ?_; exact ord_of_one hb ⟨ext_toks, rd_int⟩
  | type a => refine rl1i ha fun y_ => ?_; exact call_type_of (Tx := "int") (typeIs_int _ _ _) (by decide) ⟨.refl, rfl⟩
end
end

section
open PySem PyProof.Rows
open PySem.SeqAt
open AutoSeq1 (wpAny_loadPart')

section
variable {prog : Program} {w : World} {A : Around} {s : Shared} {V : Av}

theorem truth_ok {p : PV} {v : Value} {b : Bool} (h : truth p = some b) (x : Rd s.heap V p v) : wpAny (model prog w) A (truthy v) (fun c s' => c = b /\ Ext s s') NoE s := by
  have H := truth_inv h; clear h
  induction H with
  | none => refine rn x ?_; exact truthy_none ⟨rfl, .refl⟩
  | bool => refine rb x ?_; exact wpAny_truthy_bool ⟨rfl, .refl⟩
  | int => refine ri x fun y_ => ?_; exact truthy_int ⟨rfl, .refl⟩
  | str t hw =>
    refine rs x fun y_ => ?_
    refine P.truthy_str (Int.not_le.mpr (wide_int hw)) ⟨?_, ext_toks⟩
    rw [Bool.eq_iff_iff]; simp -iota

theorem notSlice_operate {i : Expr} {o v : Value} (h : ∀ l u st p, i ≠ .Slice l u st p) : subscripted i false o v = operate [o, v] (getItem o v) := by
  cases i with
  | Slice l u st p => exact absurd rfl (h l u st p)
  | _ => rfl

noncomputable def RdS (h : Heap) (V : Av) : PV -> Value -> Prop
  | .lst l, v => ∃ a vs, v = .ref a /\ h.IsList a vs /\ RdL h V l vs.toList
  | p, v => Rd h V p v
theorem Rd.shallow {h : Heap} {V : Av} {p : PV} {v : Value} (x : Rd h V p v) : RdS h V p v := by
  cases p with
  | lst l => obtain ⟨a, vs, e, _, l, r⟩ := x; exact ⟨a, vs, e, l, r⟩
  | _ => exact x
theorem RdS.mono {h h' : Heap} {V V' : Av} {p : PV} {v : Value} (x : RdS h V p v) (g : ∀ b o, h.get? b = some o -> h'.get? b = some o) (k : ∀ b o, h.get? b = some o -> V' b -> V b) : RdS h' V' p v := by
  cases p with
  | lst l => obtain ⟨a, vs, e, l, r⟩ := x; exact ⟨a, vs, e, let ⟨o, ho, q⟩ := l; ⟨o, g _ _ ho, q⟩, r.mono (Gr.of_ext g) k⟩
  | _ => exact Rd.mono (p := _) x (Gr.of_ext g) k

theorem tn {j : Int} {n : Nat} (h : 0 <= j /\ j < n) : j.toNat < n /\ (j.toNat : Int) = j := by
  have e := Int.toNat_of_nonneg h.1
  exact ⟨Int.ofNat_lt.mp (by rw [e]; exact h.2), e⟩
theorem item_lt {n : Nat} {i : Int} {k : Nat} (h : item n i = some k) : k < n /\ (k : Int) = if i < 0 then i + n else i := by
  unfold item seqIndex? at h
  by_cases hi : i < 0
  . simp -iota only [hi, if_true, Bool.and_eq_true, decide_eq_true_eq] at h ⊢
    by_cases hc : 0 <= i + (n : Int) /\ i + (n : Int) < n
    . rw [if_pos hc] at h; cases h; exact tn hc
    . rw [if_neg hc] at h; cases h
  . simp -iota only [hi, if_false, Bool.and_eq_true, decide_eq_true_eq] at h ⊢
    by_cases hc : 0 <= i /\ i < (n : Int)
    . rw [if_pos hc] at h; cases h; exact tn hc
    . rw [if_neg hc] at h; cases h

theorem item_neg {n k : Nat} {i : Int} (h : item n i = some k) (hi : i < 0) : -(n : Int) <= i /\ (i + n).toNat = k := by
  have := (item_lt h).2
  rw [if_pos hi] at this
  exact ⟨by have := Int.natCast_nonneg k; omega, by rw [<- this]; rfl⟩
theorem item_pos {n k : Nat} {i : Int} (h : item n i = some k) (hi : ¬ i < 0) : 0 <= i /\ i.toNat = k := by
  have := (item_lt h).2
  rw [if_neg hi] at this
  exact ⟨this ▸ Int.natCast_nonneg k, by rw [<- this]; rfl⟩
theorem small_lt2 {i : Int} (h : small i = true) : ¬ (i < -(2 ^ 63) \/ i ≥ 2 ^ 63) := by
  have := small_lt h
  clear h; lia
theorem list_item {a : Addr} {vs : Array Value} {l : List PV} {i : Int} {k : Nat} {p : PV} {t : Tok} (l1 : s.heap.IsList a vs) (r1 : RdL s.heap V l vs.toList) (hs : small i = true) (hk : item l.length i = some k) (hg : l[k]? = some p) :
    wpAny (model prog w) A (getItem (.ref a) (.int i t)) (Gives1 V s p) NoE s := by
  obtain ⟨v, hv, hr⟩ := r1.get hg
  have hsm := small_lt hs
  have e1 : vs.size = l.length := r1.length
  rw [<- e1] at hk
  rw [Array.getElem?_toList] at hv
  by_cases hi : i < 0
  . exact wpAny_getItem_list_neg l1 hi (item_neg hk hi).1 (by lia) ((item_neg hk hi).2.symm ▸ hv) ⟨.refl, hr⟩
  . exact wpAny_getItem_list l1 (item_pos hk hi).1 (by lia) ((item_pos hk hi).2.symm ▸ hv) ⟨.refl, hr⟩
theorem subsc_ok {base slc : Expr} {x y p : PV} {o i : Value} (hns : ∀ l u st q, slc ≠ .Slice l u st q) (h : subsc x y = some p) (hx : RdS s.heap V x o) (hy : Rd s.heap V y i) :
    wpAny (model prog w) A (subscriptTail base slc o i) (Gives1 V s p) NoE s := by
  have H := subsc_inv h; clear h
  induction H with
  | lst l i k p hs hk hg =>
    refine cps fun U J => ?_
    obtain ⟨a, vs, rfl, l1, r1⟩ := hx
    refine J ?_; clear J U
    refine ri hy fun y_ => ?_
    exact tail_any l1.typeIs slot_list_getitem.lookup (list_item l1 r1 hs hk hg) (notSlice_operate hns)
  | tup l i k p hs hk hg =>
    replace hx : Rd s.heap V (.tup l) o := hx
    refine ri hy fun y_ => ?_
    refine rtu hx fun a vs y_ l1 r1 => ?_
    obtain ⟨v, hv, hr⟩ := r1.get hg
    have hsm := small_lt hs
    have e1 : vs.size = l.length := r1.length
    refine tail_any (T := "tuple") (let ⟨o, ho, hc, _⟩ := l1; ⟨o, ho, hc⟩) PySem.F.slot_tuple_getitem.lookup ?_ (notSlice_operate hns)
    exact PyProof.Rows.getItem_tuple l1 (by lia) (by lia) (by rw [e1]; exact hk) (by simpa -iota using hv) ⟨.refl, hr⟩
  | str x i k c hs hk hc =>
    replace hx : Rd s.heap V (.str x) o := hx
    refine ri hy fun y_ => ?_
    refine rs hx fun y_ => ?_
    have hsm := small_lt hs
    refine tail_any (T := "str") (typeIs_str _ _ _) PySem.F.slot_str_getitem.lookup ?_ (notSlice_operate hns)
    refine PyProof.Rows.getItem_str (by simp -iota only [Bool.or_eq_false_iff, decide_eq_false_iff_not]; lia) (c := c) ?_ ⟨ext_toks, rd_str⟩
    show (item x.length i).bind _ = _
    rw [hk]; exact hc

theorem isPart_of {p : PV} {v : Value} {o : Option Int} (h : bound? p = some o) (x : Rd s.heap V p v) : IsPart v o /\ ∃ q : Option (Int × Tok), v = partValue q /\ q.map (·.1) = o := by
  have H := bound_inv h; clear h
  induction H with
  | none => refine rn x ?_; exact ⟨.none, Option.none, rfl, rfl⟩
  | int => refine ri x fun t => ?_; exact ⟨.int _ _, some (_, t), rfl, rfl⟩

theorem picked_eq (x : Str) (l u : Option (Int × Tok)) : slicePicked x l u Option.none = sliceRange (((l.map (·.1)).elim 0 (clipAt x.length) : Nat) : Int) (((u.map (·.1)).elim x.length (clipAt x.length) : Nat) : Int) 1 := by
  have := sliceBounds_plain (l.map (·.1)) (u.map (·.1)) x.length
  unfold slicePicked Builtin.Str.strSliceIndices
  unfold sliceBounds at this
  simp -iota only [Option.getD_none, Option.map_none] at this ⊢
  injection this with t1 t2
  injection t2 with t2 t3
  rw [<- t1, <- t2]
  congr 1
theorem str_cut (x : Str) (l u : Option (Int × Tok)) : (⟨((slicePicked x l u Option.none).filterMap (x.cps[·]?)).toArray⟩ : Str) = ⟨(cut x.cps.toList (l.map (·.1)) (u.map (·.1))).toArray⟩ := by
  rw [picked_eq, sliceRange_one, pick_run]
  unfold cut
  simp -iota [Str.length]

theorem clip_le (n : Nat) (i : Int) : clipAt n i <= n := by
  exact Int.ofNat_le.mp (by rw [clipAt_cast n i]; exact Int.max_le.mpr ⟨Int.natCast_nonneg n, Int.min_le_right _ _⟩)
theorem cut_all {α : Type} {x : List α} {l u : Option Int} (h : (cut x l u).length = x.length) : cut x l u = x := by
  unfold cut at h ⊢
  rw [List.length_take, List.length_drop] at h
  by_cases h0 : l.elim 0 (clipAt x.length) = 0
  . rw [h0, List.drop_zero] at *
    rw [List.take_of_length_le]
    exact Nat.le_trans (Nat.le_of_eq h.symm) (Nat.le_trans (Nat.min_le_left _ _) (Nat.sub_le_sub_left (Nat.zero_le _) _))
  . by_cases hx : x = []
    . subst hx; simp -iota
    . have := List.length_pos_iff.mpr hx
      exact absurd (Nat.le_trans (Nat.le_of_eq h.symm) (Nat.min_le_right _ _)) (Nat.not_le.mpr (Nat.sub_lt this (Nat.pos_of_ne_zero h0)))

theorem cut_str_all {x : Str} {l' u' : Option Int} {q1 q2 : Option (Int × Tok)} (f1 : q1.map (·.1) = l') (f2 : q2.map (·.1) = u') (hlen : (slicePicked x q1 q2 Option.none).length = x.length) : cut x.cps.toList l' u' = x.cps.toList := by
  apply cut_all
  rw [picked_eq, sliceRange_one, List.length_map, List.length_range, f1, f2] at hlen
  have hu' : u'.elim x.length (clipAt x.length) <= x.length := by
    cases u' with
    | none => exact Nat.le_refl _
    | some i => exact clip_le _ _
  have e0 : x.cps.toList.length = x.length := by simp -iota [Str.length]
  unfold cut
  rw [List.length_take, List.length_drop, e0]
  generalize u'.elim x.length (clipAt x.length) = c at *
  generalize l'.elim 0 (clipAt x.length) = d at *
  rw [hlen]; exact Nat.min_eq_left (Nat.le_trans (Nat.le_of_eq hlen.symm) (Nat.sub_le_sub_right hu' d))
theorem cut_le {x : Str} {l' u' : Option Int} : (cut x.cps.toList l' u').length <= x.length := by
  unfold cut
  rw [List.length_take, List.length_drop, Array.length_toList]
  exact Nat.le_trans (Nat.min_le_right _ _) (Nat.sub_le _ _)
noncomputable abbrev slS (s : Shared) (vl vu vs : Value) : Shared := { s with heap := s.heap.push { cls := .type "slice", data := .fields #[vl, vu, vs] } }
theorem sl_of {vl vu vs : Value} : (slS s vl vu vs).heap.IsSliceOf s.heap.objs.size vl vu vs := ⟨_, Heap.get?_push_size _ rfl, rfl, rfl⟩
theorem cut_str {x : Str} {l' u' : Option Int} {q1 q2 : Option (Int × Tok)} {t : Tok} (f1 : q1.map (·.1) = l') (f2 : q2.map (·.1) = u') (hw : x.length <= wide) :
    wpAny (model prog w) A (getItem (.str x t) (.ref s.heap.objs.size)) (Gives1 V s (.str ⟨(cut x.cps.toList l' u').toArray⟩)) NoE (slS s (partValue q1) (partValue q2) .none) := by
  refine wpAny_getItem_str_slice (l := q1) (u := q2) (st := Option.none) sl_of (by decide) ?_
  have hc := str_cut x q1 q2
  rw [f1, f2] at hc
  unfold sliceMade
  by_cases hcond : (slicePicked x q1 q2 Option.none).length = x.length
  . rw [if_pos (by simpa -iota using hcond)]
    refine ⟨Ext.of_heap (n := s.toks) fun y_ y_ e => Heap.get?_push_of_some _ e, ?_⟩
    rw [cut_str_all f1 f2 hcond]
    exact rd_str
  . rw [if_neg (by simpa -iota using hcond)]
    refine ⟨?_, Ext.of_heap fun y_ y_ e => Heap.get?_push_of_some _ e, ?_⟩
    . rw [hc]
      show (cut x.cps.toList l' u').toArray.size <= sizeLine
      rw [List.size_toArray]
      exact Nat.le_trans cut_le (lt_wide hw)
    . rw [hc]; exact rd_str

theorem bound_none {p : PV} (h : bound? p = some Option.none) : p = .none := by
  cases bound_inv h; rfl
theorem slice_list {base slc : Expr} {ops : Value -> Value -> List Value} {vl vu vs o : Value} (hop : ∀ o v : Value, subscripted slc false o v = operate (ops o v) (getItem o v)) (L : Laid V s.heap) (xs : List PV) (l u st : Option Int) (ys : List PV)
    (hx : RdS s.heap V (.lst xs) o) (hw : xs.length <= wide) (p1 : IsPart vl l) (p2 : IsPart vu u) (p3 : IsPart vs st) (h0 : st ≠ some 0)
    (hys : ∀ {items : List Value}, RdL s.heap V xs items -> RdL s.heap V ys (slicePick items.toArray l u st).toList) :
    wpAny (model prog w) A (subscriptTail base slc o (.ref s.heap.objs.size)) (Gives1 V s (.lst ys)) NoE (slS s vl vu vs) := by
  refine cps fun U J => ?_
  obtain ⟨a', ws, rfl, l1, r1⟩ := hx
  refine J ?_; clear J U
  have e1 : ws.size = xs.length := r1.length
  have l2 := l1.push { cls := .type "slice", data := .fields #[vl, vu, vs] }
  have L' : Laid V (slS s vl vu vs).heap := fun b v => let ⟨o, ho⟩ := L b v; ⟨o, Heap.get?_push_of_some _ ho⟩
  refine tail_any (s := slS s vl vu vs) (show Shared.TypeIs (slS s vl vu vs) _ "list" from l2.typeIs) slot_list_getitem.lookup ?_ (hop _ _)
  refine wpAny_getItem_list_slice (s := slS s vl vu vs) l2 sl_of p1 p2 p3 h0 ⟨Ext.of_heap (n := s.toks) fun y_ y_ e => Heap.get?_push_of_some _ (Heap.get?_push_of_some _ e), ?_⟩ (by rw [e1]; exact lt_wide hw)
  have := rd_newList (s := slS s vl vu vs) (ps := ys) (vs := (slicePick ws l u st).toList) L' (by
    have := hys (items := ws.toList) r1
    simpa -iota using this.gr Gr.push)
  simpa -iota using this

theorem slice_ok {base slc : Expr} {x l u st p : PV} {o vl vu vs : Value} (L : Laid V s.heap) (hsl : ∃ a b c q, slc = .Slice a b c q /\ (c = Option.none -> st = .none)) (h : slice x l u st = some p) (hx : RdS s.heap V x o) (hl : Rd s.heap V l vl) (hu : Rd s.heap V u vu) (hst : Rd s.heap V st vs) :
    wpAny (model prog w) A (subscriptTail base slc o (.ref s.heap.objs.size)) (Gives1 V s p) NoE { s with heap := s.heap.push { cls := .type "slice", data := .fields #[vl, vu, vs] } } := by
  have hop : ∃ ops : Value -> Value -> List Value, ∀ o v : Value, subscripted slc false o v = operate (ops o v) (getItem o v) := by
    refine cps fun U J => ?_
    obtain ⟨a, b, c, q, rfl, _⟩ := hsl
    refine J ?_; clear J U
    cases c with
    | none => exact ⟨fun o v => [v, o], fun y_ y_ => rfl⟩
    | some e => exact ⟨fun o v => [o, v], fun y_ y_ => rfl⟩
  obtain ⟨ops, hop⟩ := hop
  have H := slice_inv h; clear h hsl
  induction H with
  | lst xs pl pu ps l u h1 h2 h3 hw =>
    refine slice_list hop L xs l u Option.none _ hx hw (isPart_of h1 hl).1 (isPart_of h2 hu).1 (isPart_of h3 hst).1 (fun e => nomatch e) fun {items} r => ?_
    rw [slicePick_plain]
    unfold cut
    have := r.length
    simp -iota only [List.size_toArray, this]
    exact (r.drop _).take _
  | str xs pl pu ps l u h1 h2 h3 hw =>
    refine cps fun U J => ?_
    obtain ⟨p1, q1, e1, f1⟩ := isPart_of h1 hl
    obtain ⟨p2, q2, e2, f2⟩ := isPart_of h2 hu
    refine J ?_; clear J U
    have e3 : vs = .none := by rw [bound_none h3] at hst; exact hst
    subst e1 e2 e3
    replace hx : Rd s.heap V (.str xs) o := hx
    refine rs hx fun y_ => ?_
    exact tail_any (s := slS s _ _ _) (T := "str") (typeIs_str _ _ _) PySem.F.slot_str_getitem.lookup (cut_str f1 f2 hw) (hop _ _)
  | «by» xs pl pu ps l u k h1 h2 h3 hk hw =>
    refine slice_list hop L xs l u (some k) _ hx hw (isPart_of h1 hl).1 (isPart_of h2 hu).1 (isPart_of h3 hst).1 (fun e => hk (Option.some.inj e)) fun {items} r => ?_
    unfold pick slicePick
    have := r.length
    simp -iota only [List.size_toArray, this, List.getElem?_toArray]
    exact r.sub _

theorem RdS.rd {x : PV} {v : Value} (h : RdS s.heap V x v) (n : ∀ l, x ≠ .lst l) : Rd s.heap V x v := by
  cases x with
  | lst l => exact absurd rfl (n l)
  | _ => exact h
theorem bin_okS {op : Operator} {x y p : PV} {a b : Value} (L : Laid V s.heap) (h : bin op x y = some p) (ha : RdS s.heap V x a) (hb : RdS s.heap V y b) :
    wpAny (model prog w) A (binaryOp op a b) (Gives1 V s p) NoE s := by
  have H := bin_inv h
  induction H with
  | addL x y k =>
    refine cps fun U J => ?_
    obtain ⟨c, vs, rfl, l1, r1⟩ := ha; obtain ⟨d, ws, rfl, l2, r2⟩ := hb
    refine J ?_; clear J U
    exact cat_ok L l1 l2 r1 r2 k
  | _ => exact bin_ok L h (ha.rd fun y_ e => nomatch e) (hb.rd fun y_ e => nomatch e)

noncomputable def mid : BM -> String
  | .lower => "str.lower"
  | .upper => "str.upper"
  | .join => "str.join"
  | .count => "list.count"

noncomputable def mstr : BM -> Str
  | .lower => "lower"
  | .upper => "upper"
  | .join => "join"
  | .count => "count"
theorem mname_eq {n : Str} {m : BM} (hn : mname n = some m) : n = mstr m := by
  unfold mname at hn
  repeat' split at hn
  all_goals (first | (cases hn; done) | (cases hn; assumption))

theorem getMeth_ok {m : BM} {n : Str} {o p : PV} {as : List PV} {ov : Value} {pl : Sem Bool} (hn : mname n = some m) (h : bmeth m o as = some p) (ho : Rd s.heap (fun y_ => False) o ov) :
    wpAny (model prog w) A (getMethod ov n pl) (fun fx s' => fx = (.builtin (mid m), [ov]) /\ s' = s) NoE s := by
  rw [mname_eq hn]
  have H := bmeth_inv h; clear h hn
  induction H with
  | lower => refine rs ho fun y_ => ?_; simp -iota only [mstr]; (with_reducible refine GM.lower ?_); exact ⟨rfl, rfl⟩
  | upper => refine rs ho fun y_ => ?_; simp -iota only [mstr]; (with_reducible refine GM.upper ?_); exact ⟨rfl, rfl⟩
  | join => refine rs ho fun y_ => ?_; simp -iota only [mstr]; (with_reducible refine GM.join ?_); exact ⟨rfl, rfl⟩
  | count =>
    refine rl ho fun a vs fi l1 r1 => ?_
    exact getMethod_builtin l1.typeIs PySem.F.plainAttrs_list PySem.F.slot_list_count PySem.F.type_list_count (fun b e => by cases e; exact fi.2) ⟨rfl, rfl⟩

theorem mapM_at {f : PV -> Option Bool} : ∀ {l : List PV} {bs : List Bool}, l.mapM f = some bs -> bs.length = l.length /\ ∀ (i : Nat) (p : PV), l[i]? = some p -> f p = bs[i]?
  | [], bs, h => by simp -iota at h; subst h; simp -iota
  | p :: l, bs, h => by
    rw [List.mapM_cons] at h
    refine cps fun U J => ?_
    obtain ⟨b, hb, h⟩ := Option.bind_eq_some_iff.mp h
    obtain ⟨bs', hbs, h⟩ := Option.bind_eq_some_iff.mp h
    refine J ?_; clear J U
    cases h
    obtain ⟨h1, h2⟩ := mapM_at hbs
    refine ⟨by simp -iota [h1], fun i q e => ?_⟩
    cases i with
    | zero => simp -iota at e; subst e; simpa -iota using hb
    | succ i => simp -iota at e; simpa -iota using h2 i q e

theorem peqs_cong {h : Heap} {V : Av} {f : PV -> PV -> Option Bool} (hf : ∀ q q' p v b b', Rd h V q v -> Rd h V q' v -> f q p = some b -> f q' p = some b' -> b = b') :
    ∀ {qs qs' ps : List PV} {vs : List Value} {b b' : Bool}, RdL h V qs vs -> RdL h V qs' vs -> peqs f qs ps = some b -> peqs f qs' ps = some b' -> b = b' := by
  intro qs
  induction qs with
  | nil =>
    intro qs' ps vs b b' x y e e'
    cases RdL_nil.mp x
    have h0 := y.length
    cases qs' with
    | cons => exact nomatch h0
    | nil => exact Option.some.inj (e.symm.trans e')
  | cons q qs ih =>
    intro qs' ps vs b b' x y e e'
    refine cps fun U J => ?_
    obtain ⟨v, r, rfl, x1, x2⟩ := RdL_cons.mp x
    refine J ?_; clear J U
    have h0 := y.length
    cases qs' with
    | nil => exact nomatch h0
    | cons q' qs' =>
      obtain ⟨v', r', e0, y1, y2⟩ := RdL_cons.mp y
      injection e0 with e1 e2; subst e1 e2
      cases ps with
      | nil => exact ns e
      | cons p ps =>
        refine cps fun U J => ?_
        obtain ⟨c, d, hc, hd, rfl⟩ := peqs_inv e
        obtain ⟨c', d', hc', hd', rfl⟩ := peqs_inv e'
        refine J ?_; clear J U
        rw [hf _ _ _ _ _ _ x1 y1 hc hc', ih x2 y2 hd hd']

theorem peq_ir {n : Nat} {q : PV} {j : Int} {c : Bool} (h : peq n q (.int j) = some c) : ∃ i, q = .int i /\ (i == j) = c := by
  cases peq_inv h; exact ⟨_, rfl, rfl⟩
theorem peq_sr {n : Nat} {q : PV} {j : Str} {c : Bool} (h : peq n q (.str j) = some c) : ∃ i, q = .str i /\ (i == j) = c := by
  cases peq_inv h; exact ⟨_, rfl, rfl⟩
theorem peq_lr {n : Nat} {q : PV} {b : List PV} {c : Bool} (h : peq (n + 1) q (.lst b) = some c) : ∃ a, q = .lst a /\ (if a.length = b.length then peqs (peq n) a b else some false) = some c := by
  cases peq_inv h with
  | ll _ _ _ _ k => exact ⟨_, rfl, k⟩
theorem rd_ii {h : Heap} {V V' : Av} {i j : Int} {v : Value} (x : Rd h V (.int i) v) (y : Rd h V' (.int j) v) : i = j := by
  obtain ⟨t, rfl⟩ := x; obtain ⟨u, e⟩ := y; injection e
theorem rd_ss {h : Heap} {V V' : Av} {i j : Str} {v : Value} (x : Rd h V (.str i) v) (y : Rd h V' (.str j) v) : i = j := by
  obtain ⟨t, rfl⟩ := x; obtain ⟨u, e⟩ := y; injection e
theorem peq_cong {h : Heap} {V : Av} (n : Nat) : ∀ (q q' p : PV) (v : Value) (b b' : Bool), Rd h V q v -> Rd h V q' v -> peq n q p = some b -> peq n q' p = some b' -> b = b' := by
  induction n using pred_ind with | h n ih => ?_
  intro q q' p v b b' x y e e'
  have H := peq_inv e; clear e
  induction H with
  | ii n i j =>
    refine cps fun U J => ?_
    obtain ⟨i', rfl, rfl⟩ := peq_ir e'
    refine J ?_; clear J U
    rw [rd_ii x y]
  | ss n i j =>
    refine cps fun U J => ?_
    obtain ⟨i', rfl, rfl⟩ := peq_sr e'
    refine J ?_; clear J U
    rw [rd_ss x y]
  | ll n a b c e =>
    refine cps fun U J => ?_
    obtain ⟨a', rfl, e2⟩ := peq_lr e'
    refine J ?_; clear J U
    clear e'
    refine cps fun U J => ?_
    obtain ⟨d, vs, rfl, _, l1, r1⟩ := x
    refine J ?_; clear J U
    obtain ⟨d', ws, e0, _, l2, r2⟩ := y
    injection e0 with e0; subst e0
    have e1 := isList_fun l1 l2
    subst e1
    rw [<- r1.length.symm.trans r2.length] at e2
    by_cases hl : a.length = b.length
    . rw [if_pos hl] at e e2; exact peqs_cong (ih n rfl) r1 r2 e e2
    . rw [if_neg hl] at e e2; exact Option.some.inj (e.symm.trans e2)

theorem count_ok {l : List PV} {q : PV} {bs : List Bool} {a : Addr} {ws : Array Value} {v : Value} (R : Room 0 A) (hbs : (l.mapM fun z => peq 8 z q) = some bs) (l1 : s.heap.IsList a ws) (r1 : RdL s.heap (fun y_ => False) l ws.toList) (h1 : Rd s.heap (fun y_ => False) q v) :
    wpAny (model prog w) A (call (.builtin "list.count") [.ref a, v]) (Gives1 V s (.int (bs.countP id : Nat))) NoE s := by
  refine cps fun U J => ?_
  obtain ⟨⟨cls, dd, data, sl⟩, hg, hc, n, hd⟩ := id l1
  refine J ?_; clear J U
  simp -iota only at hc hd
  subst hc hd
  obtain ⟨m1, m2⟩ := mapM_at hbs
  have e1 : ws.size = l.length := r1.length
  classical
  let e : Value -> Bool := fun y => decide (∃ i : Nat, ws[i]? = some y /\ bs[i]? = some true)
  have hat : ∀ (i : Nat) (hi : i < ws.size) (hb : i < bs.length), e ws[i] = bs[i] /\ EqAt A.in1 s ws[i] v (bs[i]) := by
    intro i hi hb
    obtain ⟨p, hp, d⟩ := at_get r1 i hi
    have hp' : peq 8 p q = some bs[i] := by rw [m2 i p hp]; simp -iota
    refine ⟨?_, eqAt_ok 8 (by have := R.units; show A.units + 1 + 8 < 9000; lia) hp' d h1⟩
    rw [Bool.eq_iff_iff, decide_eq_true_iff]
    constructor
    . rintro ⟨j, hj, hbj⟩
      refine cps fun U J => ?_
      obtain ⟨hjl, hj'⟩ := Array.getElem?_eq_some_iff.mp hj
      obtain ⟨p', hp2, d'⟩ := at_get r1 j hjl
      refine J ?_; clear J U
      have hq' := m2 j p' hp2
      rw [hbj] at hq'
      rw [hj'] at d'
      exact peq_cong 8 _ _ _ _ _ _ d d' hp' hq'
    . intro hb'; exact ⟨i, by simp -iota [hi], by simp -iota [hb, hb']⟩
  have hcount : ws.toList.countP e = bs.countP id := by
    have : ws.toList.map e = bs := by
      apply List.ext_getElem
      . simp -iota [e1, m1]
      . intro i h1 h2
        simp -iota only [List.length_map, Array.length_toList] at h1
        simp -iota only [List.getElem_map, Array.getElem_toList]
        exact (hat i h1 h2).1
    rw [<- this, List.countP_map]
    congr 1
  refine call_meets PySem.F.slot_list_count l1.typeIs PySem.F.entry_list_count (PySem.F.args_list_count_2 _ _) (list_countAt a ws n dd sl v e) ⟨hg, fun y hy => ?_, ?_⟩
  . obtain ⟨i, hi, rfl⟩ := Array.mem_iff_getElem.mp hy
    have := hat i hi (by rw [m1, <- e1]; exact hi)
    rw [this.1]; exact this.2
  . rw [hcount]
    exact ⟨ext_toks, rd_int⟩
theorem bmeth_ok {m : BM} {o p : PV} {as : List PV} {ov : Value} {vs : List Value} (R : Room 0 A) (h : bmeth m o as = some p) (ho : Rd s.heap (fun y_ => False) o ov) (ha : RdL s.heap (fun y_ => False) as vs) :
    wpAny (model prog w) A (call (.builtin (mid m)) (ov :: vs)) (Gives1 V s p) NoE s := by
  have H := bmeth_inv h; clear h
  induction H with
  | lower x hw => cases RdL_nil.mp ha; refine rs ho fun y_ => ?_; exact SCL.lower (Nat.le_trans hw (by decide)) fun y_ => ⟨ext_toks, rd_str⟩
  | upper x hw => cases RdL_nil.mp ha; refine rs ho fun y_ => ?_; exact SCL.upper (Nat.le_trans hw (by decide)) fun y_ => ⟨ext_toks, rd_str⟩
  | join l ss hss hw =>
    refine rl1l ha fun a ws l1 r1 => ?_
    refine rs ho fun y_ => ?_
    exact join_list l1 (r1.strs hss) (by simp -iota only [wide] at hw; show _ + _ * 0 <= _; lia) fun t' k => ⟨ext_toks, rd_str⟩
  | count l q bs hw hbs =>
    refine rl1 ha fun v h1 => ?_
    refine rl ho fun a ws y_ l1 r1 => ?_
    exact count_ok R hbs l1 r1 h1
end
end

section
open PySem PyProof.Rows

noncomputable abbrev Own := Str -> Option Addr

noncomputable def VE (B : Av) (env : Env) (W : Own) (xs : List Str) : Av := fun b => B b \/ b = env.locals \/ (∃ x, env.cells.lookup x = some b) \/ ∃ x, x ∉ xs /\ W x = some b
theorem VE.less {B : Av} {env : Env} {W : Own} {xs ys : List Str} (h : ∀ x ∈ ys, x ∈ xs) : ∀ b, VE B env W xs b -> VE B env W ys b := fun b v => by
  rcases v with v | v | v | ⟨x, hx, e⟩
  . exact .inl v
  . exact .inr (.inl v)
  . exact .inr (.inr (.inl v))
  . exact .inr (.inr (.inr ⟨x, fun q => hx (h x q), e⟩))

noncomputable def Sl (h : Heap) (V : Av) (W : Own) (x : Str) : Slot -> Value -> Prop
  | .pv p, v => Rd h V p v
  | .own l, v => ∃ a vs, v = .ref a /\ W x = some a /\ h.PlainList a vs /\ RdL h V l vs.toList

theorem Sl.mono {h h' : Heap} {V V' : Av} {W W' : Own} {x : Str} {sl : Slot} {v : Value} (s : Sl h V W x sl v) (g : ∀ b o, (¬ V b \/ W x = some b) -> h.get? b = some o -> h'.get? b = some o)
    (k : ∀ b o, h.get? b = some o -> V' b -> V b) (e : W' x = W x) : Sl h' V' W' x sl v := by
  cases sl with
  | pv p => exact Rd.mono s (fun b o n q => g b o (.inl n) q) k
  | own l =>
    refine cps fun U J => ?_
    obtain ⟨a, vs, e1, e2, ⟨n, ho⟩, r⟩ := s
    refine J ?_; clear J U
    exact ⟨a, vs, e1, e.trans e2, ⟨n, g a _ (.inr e2) ho⟩, r.mono (fun b o n q => g b o (.inl n) q) k⟩

structure Envs (env : Env) : Prop where
  kind : env.scope.kind = .function
  globals : env.globals = mainGlobals
  builtins : env.builtins = builtinsNs

noncomputable def SameK (sc : Scope) (env : Env) : Prop := ∀ x, env.kindOf x = kd sc x \/ (kd sc x = some .free /\ env.kindOf x = some .cell)

structure St (hB : Heap) (B : Av) (sc : Scope) (env : Env) (W : Own) (r : Internal.Loc) (h : Heap) : Prop where
  envs : Envs env
  same : SameK sc env
  noClass : ∀ x, env.kindOf x = some .free -> (x == ("__classdict__" : Str)) = false
  noDebug : ∀ x k, kd sc x = some k -> (x == ("__debug__" : Str)) = false
  base : ∀ b o, hB.get? b = some o -> h.get? b = some o
  laid : Laid (VE B env W []) h
  apart : ∀ b, VE B env W [] b -> hB.get? b = none
  own : ∀ x a, W x = some a -> ¬ B a /\ a ≠ env.locals /\ (∀ y, env.cells.lookup y ≠ some a) /\ ∀ y, W y = some a -> y = x
  loc : ∃ m, h.Ns env.locals m /\ ∀ x sl, kd sc x = some .local -> r x = some sl -> ∃ v, m x = some v /\ Sl h (VE B env W []) W x sl v
  cel : ∀ x, kd sc x = some .cell \/ kd sc x = some .free -> ∃ c, env.cells.lookup x = some c /\ ∃ vo, h.IsCell c vo /\ ∀ sl, r x = some sl -> ∃ v, vo = some v /\ Sl h (VE B env W []) W x sl v

section
variable {hB : Heap} {B : Av} {sc : Scope} {env : Env} {W : Own} {r : Internal.Loc}

theorem St.ext {h h' : Heap} (S : St hB B sc env W r h) (g : ∀ b o, h.get? b = some o -> h'.get? b = some o) : St hB B sc env W r h' where
  envs := S.envs
  same := S.same
  noClass := S.noClass
  noDebug := S.noDebug
  base := fun b o e => g b o (S.base b o e)
  laid := fun b v => let ⟨o, ho⟩ := S.laid b v; ⟨o, g b o ho⟩
  apart := S.apart
  own := S.own
  loc := let ⟨m, hn, k⟩ := S.loc; ⟨m, hn.keeps g, fun x sl hk e => let ⟨v, h1, h2⟩ := k x sl hk e; ⟨v, h1, h2.mono (fun b o y_ q => g b o q) (fun y_ y_ y_ q => q) rfl⟩⟩
  cel := fun x hk => let ⟨c, h1, vo, h2, k⟩ := S.cel x hk; ⟨c, h1, vo, h2.keeps g, fun sl e => let ⟨v, h3, h4⟩ := k sl e; ⟨v, h3, h4.mono (fun b o y_ q => g b o q) (fun y_ y_ y_ q => q) rfl⟩⟩

theorem St.laidE {h : Heap} (S : St hB B sc env W r h) (xs : List Str) : Laid (VE B env W xs) h := fun b v => S.laid b (VE.less (by simp) b v)

theorem St.sub {h : Heap} {r' : Internal.Loc} (S : St hB B sc env W r h) (k : ∀ x sl, r' x = some sl -> r x = some sl) : St hB B sc env W r' h where
  envs := S.envs
  same := S.same
  noClass := S.noClass
  noDebug := S.noDebug
  base := S.base
  laid := S.laid
  apart := S.apart
  own := S.own
  loc := let ⟨m, hn, q⟩ := S.loc; ⟨m, hn, fun x sl hk e => q x sl hk (k x sl e)⟩
  cel := fun x hk => let ⟨c, h1, vo, h2, q⟩ := S.cel x hk; ⟨c, h1, vo, h2, fun sl e => q sl (k x sl e)⟩

end

noncomputable def GName (prog : Program) (w : World) (hB : Heap) (x : Str) (v : Value) : Prop :=
  ∀ (env : Env) (A : Around) (E : Value -> Shared -> Prop) (Q : Value -> Shared -> Prop) (s : Shared), Envs env -> env.kindOf x = some .globalImplicit ->
    (∀ b o, hB.get? b = some o -> s.heap.get? b = some o) -> Q v s -> wpAny (model prog w) A (loadName env x) Q E s

noncomputable def FnOk (prog : Program) (w : World) (hB : Heap) (k : Nat) (f : Str) (F : List PV -> Option PV) : Prop :=
  ∃ a o fd, GName prog w hB f (.ref a) /\ hB.get? a = some o /\ o.data = .func fd /\
    ∀ (as : List PV) (p : PV), F as = some p -> ∀ (A : Around) (V : Av) (s : Shared) (vs : List Value), Room k A -> (∀ b o, hB.get? b = some o -> s.heap.get? b = some o) -> Laid V s.heap -> (∀ b, V b -> hB.get? b = none) ->
      AllBare s.gens -> RdL s.heap V as vs -> wpAny (model prog w) A (call (.ref a) vs) (Gives1 V s p) NoE s

structure OrcOk (prog : Program) (w : World) (hB : Heap) (k : Nat) (o : Orc) : Prop where
  gl : ∀ x p, o.gl x = some p -> ∃ v, GName prog w hB x v /\ Rd hB (fun y_ => False) p v
  bf : ∀ f b, bname f = some b -> GName prog w hB f (bval b)
  fn : ∀ f as p, bname f = Option.none -> o.fn f as = some p -> ∃ F, FnOk prog w hB k f F /\ F as = some p

section
variable {prog : Program} {w : World} {A : Around} {s : Shared} {hB : Heap} {B : Av} {sc : Scope} {env : Env} {W : Own} {r : Internal.Loc} {o : Orc} {k : Nat}

theorem rd_base {p : PV} {v : Value} {h : Heap} {V : Av} (x : Rd hB (fun y_ => False) p v) (g : ∀ b o, hB.get? b = some o -> h.get? b = some o) (a : ∀ b, V b -> hB.get? b = none) : Rd h V p v :=
  x.mono (Gr.of_ext g) fun b o e q => by rw [a b q] at e; refine' e

theorem look_cases {x : Str} {p : PV} (h : look o sc r x = some p) : (kd sc x = some .local /\ (r x).map Slot.val = some p) \/ (kd sc x = some .cell /\ (r x).map Slot.val = some p) \/ (kd sc x = some .free /\ (r x).map Slot.val = some p) \/ (kd sc x = some .globalImplicit /\ o.gl x = some p) := by
  unfold look at h
  cases hk : kd sc x with
  | none => rw [hk] at h; exact ns h
  | some q =>
    rw [hk] at h
    cases q with
    | «local» => exact .inl ⟨rfl, h⟩
    | cell => exact .inr (.inl ⟨rfl, h⟩)
    | free => exact .inr (.inr (.inl ⟨rfl, h⟩))
    | globalImplicit => exact .inr (.inr (.inr ⟨rfl, h⟩))
    | _ => exact ns h
theorem loadName_ok (O : OrcOk prog w hB k o) (S : St hB B sc env W r s.heap) {x : Str} {p : PV} (h : look o sc r x = some p) :
    wpAny (model prog w) A (loadName env x) (fun v s' => s' = s /\ Rd s.heap (VE B env W [x]) p v /\ RdS s.heap (VE B env W []) p v) NoE s := by
  have slot : ∀ sl v, r x = some sl -> p = sl.val -> Sl s.heap (VE B env W []) W x sl v -> Rd s.heap (VE B env W [x]) p v /\ RdS s.heap (VE B env W []) p v := by
    intro sl v _ e q
    subst e
    cases sl with
    | pv p => exact ⟨Rd.less q (VE.less (by simp)), Rd.shallow q⟩
    | own l =>
      refine cps fun U J => ?_
      obtain ⟨a, vs, rfl, e2, pl, r1⟩ := q
      refine J ?_; clear J U
      have l1 := pl.isList
      have nd : NoDict s.heap a := let ⟨n, e⟩ := pl; ⟨_, e, rfl⟩
      have hw := S.own x a e2
      refine ⟨?_, ⟨a, vs, rfl, l1, r1⟩⟩
      show Rd _ _ (.lst l) _
      refine Exists.intro (a) ⟨vs, rfl, ⟨fun v => ?_, nd⟩, l1, r1.less (VE.less (by simp))⟩
      rcases v with v | v | ⟨y, v⟩ | ⟨y, hy, e⟩
      . exact hw.1 v
      . exact hw.2.1 v
      . exact hw.2.2.1 y v
      . exact hy (by rw [hw.2.2.2 y e]; simp)
  rcases look_cases h with ⟨hk, h⟩ | ⟨hk, h⟩ | ⟨hk, h⟩ | ⟨hk, h⟩
  . refine cps fun U J => ?_
    obtain ⟨sl, e1, e2⟩ := Option.map_eq_some_iff.mp h
    obtain ⟨m, hn, q⟩ := S.loc
    obtain ⟨v, h1, h2⟩ := q x sl hk e1
    refine J ?_; clear J U
    have hke : env.kindOf x = some .local := by rcases S.same x with e | ⟨e, _⟩ <;> rw [hk] at e; exact e; refine' e
    exact wpAny_loadName_local S.envs.kind hke hn h1 ⟨rfl, slot sl v e1 e2.symm h2⟩
  . refine cps fun U J => ?_
    obtain ⟨sl, e1, e2⟩ := Option.map_eq_some_iff.mp h
    obtain ⟨c, hc, vo, hv, q⟩ := S.cel x (.inl hk)
    obtain ⟨v, rfl, h2⟩ := q sl e1
    refine J ?_; clear J U
    have hke : env.kindOf x = some .cell := by rcases S.same x with e | ⟨e, _⟩ <;> rw [hk] at e; exact e; refine' e
    exact wpAny_loadName_cell S.envs.kind hke hc hv ⟨rfl, slot sl v e1 e2.symm h2⟩
  . refine cps fun U J => ?_
    obtain ⟨sl, e1, e2⟩ := Option.map_eq_some_iff.mp h
    obtain ⟨c, hc, vo, hv, q⟩ := S.cel x (.inr hk)
    obtain ⟨v, rfl, h2⟩ := q sl e1
    refine J ?_; clear J U
    rcases S.same x with e | ⟨_, e⟩
    . rw [hk] at e
      exact wpAny_loadName_free S.envs.kind e hc hv ⟨rfl, slot sl v e1 e2.symm h2⟩ (S.noClass x e)
    . exact wpAny_loadName_cell S.envs.kind e hc hv ⟨rfl, slot sl v e1 e2.symm h2⟩
  . obtain ⟨v, hg, hr⟩ := O.gl x p h
    have hke : env.kindOf x = some .globalImplicit := by rcases S.same x with e | ⟨e, _⟩ <;> rw [hk] at e; exact e; refine' e
    refine hg env A _ _ s S.envs hke S.base ⟨rfl, rd_base hr S.base fun b v => S.apart b (VE.less (by simp) b v), (rd_base hr S.base S.apart).shallow⟩

structure StorL (hE : Heap) (sc : Scope) (env : Env) : Prop where
  newL : hE.get? env.locals = none
  newC : ∀ x c, kd sc x = some .cell -> env.cells.lookup x = some c -> hE.get? c = none
  neL : ∀ x c, env.cells.lookup x = some c -> c ≠ env.locals
  neC : ∀ x y c, kd sc x = some .cell -> env.cells.lookup x = some c -> env.cells.lookup y = some c -> x = y

noncomputable def MutB (env : Env) (W : Own) : Av := fun b => b = env.locals \/ (∃ x, env.cells.lookup x = some b) \/ ∃ x, W x = some b

theorem store_ok {hE : Heap} (T : StorL hE sc env) {W' : Own} {x : Str} {sl : Slot} {v : Value} (hx : storable sc x = true)
    (S : St hB B sc env W' (fun y => if y = x then Option.none else r y) s.heap) (hs : Sl s.heap (VE B env W' []) W' x sl v) (hE' : ∀ b o, hE.get? b = some o -> s.heap.get? b = some o) :
    wpAny (model prog w) A (storeName env x v) (fun y_ s' => St hB B sc env W' (up x sl r) s'.heap /\ (∀ b o, hE.get? b = some o -> s'.heap.get? b = some o) /\
      (∀ b o, ¬ (b = env.locals \/ ∃ x, kd sc x = some .cell /\ env.cells.lookup x = some b) -> s.heap.get? b = some o -> s'.heap.get? b = some o) /\ s'.os = s.os /\ s'.gens = s.gens) NoE s := by
  rcases stor_inv hx with hk | hk
  . have hke : env.kindOf x = some .local := by rcases S.same x with e | ⟨e, _⟩ <;> rw [hk] at e; exact e; refine' e
    obtain ⟨m, hn, q⟩ := S.loc
    refine wpAny_storeName_local hke hn (fun h' hn' hsb => ?_) (by rw [S.envs.kind]; rfl)
    have g : ∀ b o, b ≠ env.locals -> s.heap.get? b = some o -> h'.get? b = some o := fun b o n e => hsb.extBut b o n e
    have nL : ∀ b, ¬ VE B env W' [] b \/ (∃ y, W' y = some b) -> b ≠ env.locals := by
      rintro b (n | ⟨y, e⟩) rfl
      . exact n (.inr (.inl rfl))
      . exact (S.own y _ e).2.1 rfl
    have mv : ∀ {y sl v}, Sl s.heap (VE B env W' []) W' y sl v -> Sl h' (VE B env W' []) W' y sl v := fun q => q.mono (fun b o n e => g b o (nL b (n.imp id fun e => ⟨_, e⟩)) e) (fun y_ y_ y_ q => q) rfl
    refine ⟨⟨S.envs, S.same, S.noClass, S.noDebug, fun b o e => g b o (fun q => by subst q; have := S.apart _ (.inr (.inl rfl)); rw [this] at e; refine' e) (S.base b o e), fun b v => ?_, S.apart, S.own, ⟨_, hn', ?_⟩, ?_⟩, ?_, ?_, rfl, rfl⟩
    . by_cases hb : b = env.locals
      . subst hb
        refine cps fun U J => ?_
        obtain ⟨o, _, _, ho, _⟩ := hn'
        refine J ?_; clear J U
        exact ⟨o, ho⟩
      . obtain ⟨o, ho⟩ := S.laid b v; exact ⟨o, g b o hb ho⟩
    . intro y sl' hky hy
      by_cases hyx : y = x
      . cases hyx.symm
        simp only [up, if_true] at hy
        refine' hy
        exact ⟨v, by simp, mv hs⟩
      . simp only [up, if_neg hyx] at hy
        obtain ⟨v', h1, h2⟩ := q y sl' hky (by simpa [hyx] using hy)
        exact ⟨v', by simp [hyx, h1], mv h2⟩
    . intro y hky
      obtain ⟨c, hc, vo, hv, q'⟩ := S.cel y hky
      refine ⟨c, hc, vo, hv.sameBut hsb (T.neL y c hc), fun sl' hy => ?_⟩
      have hyx : y ≠ x := by rintro rfl; rw [hk] at hky; rcases hky with e | e <;> refine' e
      simp only [up, if_neg hyx] at hy
      obtain ⟨v', h1, h2⟩ := q' sl' (by simpa [hyx] using hy)
      exact ⟨v', h1, mv h2⟩
    . exact fun b o e => g b o (fun q => by subst q; rw [T.newL] at e; refine' e) (hE' b o e)
    . exact fun b o n e => g b o (fun q => n (.inl q)) e
  . have hke : env.kindOf x = some .cell := by rcases S.same x with e | ⟨e, _⟩ <;> rw [hk] at e; exact e; refine' e
    refine cps fun U J => ?_
    obtain ⟨c, hc, vo, hv, _⟩ := S.cel x (.inl hk)
    refine J ?_; clear J U
    refine wpAny_storeName_cell S.envs.kind hke hc hv fun h' hc' hsb => ?_
    have g : ∀ b o, b ≠ c -> s.heap.get? b = some o -> h'.get? b = some o := fun b o n e => hsb.extBut b o n e
    have nC : ∀ b, ¬ VE B env W' [] b \/ (∃ y, W' y = some b) -> b ≠ c := by
      rintro b (n | ⟨y, e⟩) rfl
      . exact n (.inr (.inr (.inl ⟨x, hc⟩)))
      . exact (S.own y _ e).2.2.1 x hc
    have mv : ∀ {y sl v}, Sl s.heap (VE B env W' []) W' y sl v -> Sl h' (VE B env W' []) W' y sl v := fun q => q.mono (fun b o n e => g b o (nC b (n.imp id fun e => ⟨_, e⟩)) e) (fun y_ y_ y_ q => q) rfl
    obtain ⟨m, hn, q⟩ := S.loc
    refine ⟨⟨S.envs, S.same, S.noClass, S.noDebug, fun b o e => g b o (fun q => by subst q; have := S.apart _ (.inr (.inr (.inl ⟨x, hc⟩))); rw [this] at e; refine' e) (S.base b o e), fun b v => ?_, S.apart, S.own, ⟨m, hn.sameBut hsb (Ne.symm (T.neL x c hc)), ?_⟩, ?_⟩, ?_, ?_, rfl, rfl⟩
    . by_cases hb : b = c
      . cases hb.symm
        obtain ⟨o, ho, _⟩ := hc'
        exact ⟨o, ho⟩
      . obtain ⟨o, ho⟩ := S.laid b v; exact ⟨o, g b o hb ho⟩
    . intro y sl' hky hy
      have hyx : y ≠ x := by rintro rfl; rw [hk] at hky; refine' hky
      simp only [up, if_neg hyx] at hy
      obtain ⟨v', h1, h2⟩ := q y sl' hky (by simpa [hyx] using hy)
      exact ⟨v', h1, mv h2⟩
    . intro y hky
      obtain ⟨d, hd, vo', hv', q'⟩ := S.cel y hky
      by_cases hyx : y = x
      . cases hyx.symm
        rw [hc] at hd; refine' hd
        refine ⟨c, hc, some v, hc', fun sl' hy => ?_⟩
        simp only [up, if_true] at hy
        refine' hy
        exact ⟨v, rfl, mv hs⟩
      . have hdc : d ≠ c := fun e => hyx (T.neC x y c hk hc (e ▸ hd)).symm
        refine ⟨d, hd, vo', hv'.sameBut hsb hdc, fun sl' hy => ?_⟩
        simp only [up, if_neg hyx] at hy
        obtain ⟨v', h1, h2⟩ := q' sl' (by simpa [hyx] using hy)
        exact ⟨v', h1, mv h2⟩
    . exact fun b o e => g b o (fun q => by rw [q, T.newC x c hk hc] at e; refine' e) (hE' b o e)
    . exact fun b o n e => g b o (fun q => n (.inr ⟨x, hk, q ▸ hc⟩)) e
end
end

section
open PySem PyProof.Rows

structure It (prog : Program) (w : World) (V : Av) (ps : List PV) (h0 : Heap) (s : Shared) (I : Addr) (fp wr : List Addr) (P : Nat -> Value -> Prop) (S : Nat -> Heap -> Prop) : Prop where
  walks : ∀ A' : Around, A'.handled = none -> Walks prog w A' I fp wr ps.length P S
  st : S 0 s.heap
  val : ∀ i x, i < ps.length -> P i x -> ∃ q, ps[i]? = some q /\ Rd h0 V q x
  wrNew : ∀ b ∈ wr, h0.get? b = none /\ ∃ o, s.heap.get? b = some o
  alive : ∀ i h, S i h -> ∀ b ∈ wr, ∃ o, h.get? b = some o
  fpOld : ∀ b ∈ fp, b ∈ wr \/ ∃ o, h0.get? b = some o
  go : ∀ (target : Expr) (A : Around) (E : Value -> Shared -> Prop) (Q : Unit -> Shared -> Prop) (s' : Shared) (i j : Nat) (x : Value), S i s'.heap -> P j x -> Q () s' -> wpAny (model prog w) A (letOwnedTupleGo target (.ref I) x) Q E s'

section
variable {prog : Program} {w : World} {A : Around} {s : Shared} {V : Av}

theorem go_plain {E : Value -> Shared -> Prop} {target : Expr} {I : Addr} {x : Value} {o : Obj} {n : String} {Q : Unit -> Shared -> Prop} (ho : s.heap.get? I = some o) (hc : o.cls = .type n)
    (hn : (["enumerate", "zip", "dict_itemiterator", "dict_reverseitemiterator", "odict_iterator", "itertools.zip_longest", "itertools.pairwise"] : List String).contains n = false) (h : Q () s) :
    wpAny (model prog w) A (letOwnedTupleGo target (.ref I) x) Q E s := by
  refine cps fun U J => ?_
  obtain ⟨cls, dd, dt, sl⟩ := o
  refine J ?_; clear J U
  simp only at hc
  subst hc
  refine' target <;> first
    | exact wpAny_pure h
    | (refine' x <;> first
        | exact wpAny_pure h
        | (unfold letOwnedTupleGo
           refine wpAny_bind (wpAny_load ho ?_)
           refine' dt <;> first
             | exact wpAny_pure h
             | (dsimp only
                rw [hn]
                simp only [Bool.false_and, Bool.false_eq_true, if_false]
                exact wpAny_pure h)))

theorem go_str {E : Value -> Shared -> Prop} {target : Expr} {I : Addr} {x : Str} {t : Tok} {Q : Unit -> Shared -> Prop} (h : Q () s) :
    wpAny (model prog w) A (letOwnedTupleGo target (.ref I) (.str x t)) Q E s := by
  refine' target <;> exact wpAny_pure h

theorem rngList_get {a b c : Int} {i : Nat} {n : Nat} (hn : (Builtin.Range.rangeSize a b c).toNat = n) (hi : i < n) : (rngList a b c)[i]? = some (.int (a + c * (i : Int))) := by
  unfold rngList
  rw [hn]
  simp [hi]

inductive ItR : PV -> List PV -> Prop
  | lst (l : List PV) : ItR (.lst l) l
  | tup (l : List PV) : ItR (.tup l) l
  | str (s : Str) : ItR (.str s) (s.cps.toList.map fun c => .str ⟨#[c]⟩)
  | rng (a b c : Int) : ItR (.rng a b c) (rngList a b c)
theorem iterOf_inv {p : PV} {l : List PV} (h : iterOf p = some l) : ItR p l := by
  cases p with
  | lst l => exact Option.some.inj h ▸ .lst l
  | tup l => exact Option.some.inj h ▸ .tup l
  | str s => exact Option.some.inj h ▸ .str s
  | rng a b c => exact Option.some.inj h ▸ .rng a b c
  | _ => exact ns h

theorem iter_ok {p : PV} {ps : List PV} {v : Value} (L : Laid V s.heap) (h : iterOf p = some ps) (x : RdS s.heap V p v) :
    wpAny (model prog w) A (pyIter v) (fun it s' => ∃ I fp wr P S, it = .ref I /\ It prog w V ps s.heap s' I fp wr P S /\ Ext s s' /\ (∀ V2 : Av, Rd s.heap V2 p v -> ∀ b ∈ fp, b ∈ wr \/ ¬ V2 b)) NoE s := by
  have H := iterOf_inv h
  clear h
  induction H with
  | lst ps =>
    refine cps fun U J => ?_
    obtain ⟨a, vs, rfl, l1, r1⟩ := x
    refine J ?_; clear J U
    have hlt : a ≠ s.heap.objs.size := by obtain ⟨o, ho, _⟩ := l1; exact Nat.ne_of_lt (Heap.lt_size ho)
    have e1 : vs.size = ps.length := by simpa using r1.length
    refine wpAny_pyIter_list l1 ⟨_, [s.heap.objs.size, a], [s.heap.objs.size], _, _, rfl, ⟨fun A' hh => e1 ▸ Walks.list hh _ a hlt vs, ⟨⟨_, Heap.get?_push_size _ rfl, rfl, rfl⟩, l1.push _⟩, fun i x hi0 hx => ?_, fun b hb => ?_, ?_, fun b hb => ?_, ?_⟩, ext_push', fun V2 full b hb => ?_⟩
    . refine cps fun U J => ?_
      obtain ⟨hi, hx'⟩ := Array.getElem?_eq_some_iff.mp hx
      obtain ⟨u, hu, d⟩ := r1.get (i := i) (p := ps[i]'(by lia)) (by simp)
      refine J ?_; clear J U
      refine ⟨ps[i]'(by lia), by simp, ?_⟩
      have : u = x := by
        have : vs[i]? = some u := by simpa using hu
        rw [hx] at this; exact (Option.some.inj this).symm
      subst this
      exact d
    . simp only [List.mem_singleton] at hb; subst hb
      exact ⟨size_free _, _, Heap.get?_push_size _ rfl⟩
    . intro i h hs b hb
      simp only [List.mem_singleton] at hb; subst hb
      obtain ⟨o, ho, _⟩ := hs.1; exact ⟨o, ho⟩
    . rcases List.mem_cons.mp hb with rfl | hb
      . exact .inl (by simp)
      . simp only [List.mem_singleton] at hb; subst hb
        obtain ⟨o, ho, _⟩ := l1
        exact .inr ⟨o, ho⟩
    . intro target A E Q s' i j x hs _ hq
      refine cps fun U J => ?_
      obtain ⟨o, ho, hc, _⟩ := hs.1
      refine J ?_; clear J U
      exact go_plain ho hc (by decide) hq
    . rcases List.mem_cons.mp hb with rfl | hb
      . exact .inl (by simp)
      . simp only [List.mem_singleton] at hb; subst hb
        refine cps fun U J => ?_
        obtain ⟨a', _, e, ⟨nv, _⟩, _⟩ := full
        refine J ?_; clear J U
        refine' e
        exact .inr nv
  | tup ps =>
    have x' := x
    refine cps fun U J => ?_
    obtain ⟨a, vs, rfl, nv, l1, r1⟩ := x
    refine J ?_; clear J U
    have hlt : a ≠ s.heap.objs.size := by obtain ⟨o, ho, _⟩ := l1; exact Nat.ne_of_lt (Heap.lt_size ho)
    have e1 : vs.size = ps.length := by simpa using r1.length
    refine wpAny_pyIter_tuple l1 ⟨_, [s.heap.objs.size, a], [s.heap.objs.size], _, _, rfl, ⟨fun A' hh => e1 ▸ Walks.tuple hh _ a hlt vs, ⟨⟨_, Heap.get?_push_size _ rfl, rfl, rfl⟩, (let ⟨o, ho, q⟩ := l1; ⟨o, Heap.get?_push_of_some _ ho, q⟩)⟩, fun i x hi0 hx => ?_, fun b hb => ?_, ?_, fun b hb => ?_, ?_⟩, ext_push', fun V2 full b hb => ?_⟩
    . refine cps fun U J => ?_
      obtain ⟨hi, hx'⟩ := Array.getElem?_eq_some_iff.mp hx
      obtain ⟨u, hu, d⟩ := r1.get (i := i) (p := ps[i]'(by lia)) (by simp)
      refine J ?_; clear J U
      refine ⟨ps[i]'(by lia), by simp, ?_⟩
      have : u = x := by
        have : vs[i]? = some u := by simpa using hu
        rw [hx] at this; exact (Option.some.inj this).symm
      subst this
      exact d
    . simp only [List.mem_singleton] at hb; subst hb
      exact ⟨size_free _, _, Heap.get?_push_size _ rfl⟩
    . intro i h hs b hb
      simp only [List.mem_singleton] at hb; subst hb
      obtain ⟨o, ho, _⟩ := hs.1; exact ⟨o, ho⟩
    . rcases List.mem_cons.mp hb with rfl | hb
      . exact .inl (by simp)
      . simp only [List.mem_singleton] at hb; subst hb
        obtain ⟨o, ho, _⟩ := l1
        exact .inr ⟨o, ho⟩
    . intro target A E Q s' i j x hs _ hq
      refine cps fun U J => ?_
      obtain ⟨o, ho, hc, _⟩ := hs.1
      refine J ?_; clear J U
      exact go_plain ho hc (by decide) hq
    . rcases List.mem_cons.mp hb with rfl | hb
      . exact .inl (by simp)
      . simp only [List.mem_singleton] at hb; subst hb
        refine cps fun U J => ?_
        obtain ⟨a', _, e, nv', _⟩ := full
        refine J ?_; clear J U
        refine' e
        exact .inr nv'
  | str y =>
    obtain ⟨t, rfl⟩ := x
    cases ha : y.cps.all (· < 128) with
    | true =>
      refine wpAny_pyIter_ascii ha ⟨s.heap.objs.size, [s.heap.objs.size], [s.heap.objs.size], SignAt y, (fun i h => h.IsStrIter s.heap.objs.size "str_ascii_iterator" y t i), rfl, ⟨fun A' hh => by simpa using Walks.strAscii hh s.heap.objs.size y t, ⟨_, Heap.get?_push_size _ rfl, rfl, rfl⟩, fun i x hi0 hx => ?_, fun b hb => ?_, (fun i h hs b hb => by simp only [List.mem_singleton] at hb; subst hb; exact (let ⟨o, ho, _⟩ := hs; ⟨o, ho⟩)), fun b hb => .inl hb, ?_⟩, ext_push', fun V2 full b hb => .inl hb⟩
      . refine cps fun U J => ?_
        obtain ⟨c, u, hc, rfl⟩ := hx
        refine J ?_; clear J U
        exact ⟨.str ⟨#[c]⟩, by simp [hc], rd_str⟩
      . simp only [List.mem_singleton] at hb; subst hb
        exact ⟨size_free _, _, Heap.get?_push_size _ rfl⟩
      . intro target A E Q s' i j x hs hx hq
        refine cps fun U J => ?_
        obtain ⟨c, u, hc, rfl⟩ := hx
        refine J ?_; clear J U
        exact go_str hq
    | false =>
      refine wpAny_pyIter_wide ha ⟨s.heap.objs.size, [s.heap.objs.size], [s.heap.objs.size], SignAt y, (fun i h => h.IsStrIter s.heap.objs.size "str_iterator" y t i), rfl, ⟨fun A' hh => by simpa using Walks.strWide hh s.heap.objs.size y t, ⟨_, Heap.get?_push_size _ rfl, rfl, rfl⟩, fun i x hi0 hx => ?_, fun b hb => ?_, (fun i h hs b hb => by simp only [List.mem_singleton] at hb; subst hb; exact (let ⟨o, ho, _⟩ := hs; ⟨o, ho⟩)), fun b hb => .inl hb, ?_⟩, ext_push', fun V2 full b hb => .inl hb⟩
      . refine cps fun U J => ?_
        obtain ⟨c, u, hc, rfl⟩ := hx
        refine J ?_; clear J U
        exact ⟨.str ⟨#[c]⟩, by simp [hc], rd_str⟩
      . simp only [List.mem_singleton] at hb; subst hb
        exact ⟨size_free _, _, Heap.get?_push_size _ rfl⟩
      . intro target A E Q s' i j x hs hx hq
        refine cps fun U J => ?_
        obtain ⟨c, u, hc, rfl⟩ := hx
        refine J ?_; clear J U
        exact go_str hq
  | rng a b c =>
    refine cps fun U J => ?_
    obtain ⟨r, t, u, z, rfl, nv, hr, hs⟩ := x
    refine J ?_; clear J U
    have hnn : Builtin.Range.rangeSize a b c = ((Builtin.Range.rangeSize a b c).toNat : Int) := (Int.toNat_of_nonneg rangeSize_nonneg).symm
    have hlen : (rngList a b c).length = (Builtin.Range.rangeSize a b c).toNat := by simp [rngList]
    refine wpAny_pyIter_range hr hs ⟨s.heap.objs.size, [s.heap.objs.size], [s.heap.objs.size], (fun i v => ∃ t, v = Value.int (a + (i : Int) * c) t), (fun i h => IsRangeIter h s.heap.objs.size (a + (i : Int) * c) (((Builtin.Range.rangeSize a b c).toNat : Int) - i) c), rfl, ⟨fun A' hh => by rw [hlen]; exact Walks.range hh s.heap.objs.size a c _, ?_, fun i x hi0 hx => ?_, fun b hb => ?_, (fun i h hs b hb => by simp only [List.mem_singleton] at hb; subst hb; exact ⟨_, hs⟩), fun b hb => .inl hb, ?_⟩, ext_push', fun V2 full b hb => .inl hb⟩
    . show IsRangeIter _ _ _ _ _
      unfold IsRangeIter
      rw [Heap.get?_push_size _ rfl, hnn]
      simp
    . obtain ⟨t, rfl⟩ := hx
      refine ⟨_, rngList_get (a := a) (b := b) (c := c) rfl (by lia), ?_⟩
      rw [Int.mul_comm]; exact rd_int
    . simp only [List.mem_singleton] at hb; subst hb
      exact ⟨size_free _, _, Heap.get?_push_size _ rfl⟩
    . intro target A E Q s' i j x hs _ hq
      exact go_plain hs rfl (by decide) hq
end
end

section
open PySem PyProof.Rows

section
variable {prog : Program} {w : World} {A : Around} {s : Shared} {hB hE : Heap} {B : Av} {sc : Scope} {env : Env} {W : Own} {r r' : Internal.Loc} {o : Orc} {k : Nat}

noncomputable def Put (sc : Scope) (env : Env) : Av := fun b => b = env.locals \/ ∃ x, kd sc x = some .cell /\ env.cells.lookup x = some b

structure Bound (hE : Heap) (hB : Heap) (B : Av) (sc : Scope) (env : Env) (W : Own) (r : Internal.Loc) (s s' : Shared) : Prop where
  st : St hB B sc env W r s'.heap
  entry : ∀ b o, hE.get? b = some o -> s'.heap.get? b = some o
  kept : ∀ b o, ¬ Put sc env b -> s.heap.get? b = some o -> s'.heap.get? b = some o
  os : s'.os = s.os
  gens : AllBare s.gens -> AllBare s'.gens

theorem St.drop {h : Heap} (S : St hB B sc env W r h) (x : Str) : St hB B sc env W (fun y => if y = x then Option.none else r y) h :=
  S.sub fun y sl e => by
    by_cases hy : y = x
    . simp [hy] at e
    . simpa [hy] using e

theorem put_pv (T : StorL hE sc env) {x : Str} {p : PV} {v : Value} (hx : storable sc x = true) (S : St hB B sc env W r s.heap) (hv : Rd s.heap (VE B env W []) p v) (hE' : ∀ b o, hE.get? b = some o -> s.heap.get? b = some o) :
    wpAny (model prog w) A (storeName env x v) (fun y_ s' => Bound hE hB B sc env W (up x (.pv p) r) s s') NoE s :=
  wpAny_mono (store_ok (r := r) T hx (S.drop x) (sl := .pv p) hv hE') (fun y_ s' h => ⟨h.1, h.2.1, h.2.2.1, h.2.2.2.1, fun g => by rw [h.2.2.2.2]; exact g⟩) fun y_ y_ e => e

theorem Bound.trans {s s' s'' : Shared} {r1 r2 : Internal.Loc} (a : Bound hE hB B sc env W r1 s s') (b : Bound hE hB B sc env W r2 s' s'') : Bound hE hB B sc env W r2 s s'' :=
  ⟨b.st, b.entry, fun x o n e => b.kept x o n (a.kept x o n e), b.os.trans a.os, fun g => b.gens (a.gens g)⟩

theorem Rd.put {h h' : Heap} {p : PV} {v : Value} (x : Rd h (VE B env W []) p v) (kp : ∀ b o, ¬ Put sc env b -> h.get? b = some o -> h'.get? b = some o) : Rd h' (VE B env W []) p v :=
  x.gr fun b o n e => kp b o (fun q => n (by rcases q with rfl | ⟨x, _, e⟩; exact .inr (.inl rfl); exact .inr (.inr (.inl ⟨x, e⟩)))) e
theorem RdL.put {h h' : Heap} {p : List PV} {v : List Value} (x : RdL h (VE B env W []) p v) (kp : ∀ b o, ¬ Put sc env b -> h.get? b = some o -> h'.get? b = some o) : RdL h' (VE B env W []) p v :=
  x.gr fun b o n e => kp b o (fun q => n (by rcases q with rfl | ⟨x, _, e⟩; exact .inr (.inl rfl); exact .inr (.inr (.inl ⟨x, e⟩)))) e

theorem bindTs_len {ts : List Expr} {ps : List PV} {r r' : Internal.Loc} (h : bindTs sc ts ps r = some r') : ts.length = ps.length /\ ∀ t ∈ ts, ∃ x q, t = .Name x q := by
  have H := bts h; clear h
  induction H with
  | nil => exact ⟨rfl, fun t ht => nomatch ht⟩
  | cons x q ts p ps r r' hx h ih => exact ⟨congrArg Nat.succ ih.1, List.forall_mem_cons.mpr ⟨⟨x, q, rfl⟩, ih.2⟩⟩

theorem assignEach_names {ts : List Expr} : (∀ t ∈ ts, ∃ x q, t = .Name x q) -> (assignEach ts env).length = ts.length /\ (assignEach ts env).findIdx? (·.1) = Option.none := by
  induction ts with
  | nil => exact fun y_ => ⟨rfl, rfl⟩
  | cons t ts ih =>
    intro h
    obtain ⟨x, q, rfl⟩ := h t List.mem_cons_self
    obtain ⟨h1, h2⟩ := ih fun t ht => h t (List.mem_cons_of_mem _ ht)
    refine ⟨congrArg Nat.succ h1, ?_⟩
    show ((false, assign (.Name x q) env) :: assignEach ts env).findIdx? (·.1) = Option.none
    rw [List.findIdx?_cons, h2]; rfl

theorem bindTs_ok (T : StorL hE sc env) {ts : List Expr} {ps : List PV} {vs : List Value} {r r' : Internal.Loc} {s : Shared} (h : bindTs sc ts ps r = some r') (S : St hB B sc env W r s.heap) (hv : RdL s.heap (VE B env W []) ps vs)
    (hE' : ∀ b o, hE.get? b = some o -> s.heap.get? b = some o) :
    wpAny (model prog w) A (assignInOrder ((assignEach ts env).map (·.2)) vs) (fun y_ s' => Bound hE hB B sc env W r' s s') NoE s := by
  have H := bts h; clear h
  induction H generalizing vs s with
  | nil =>
    cases RdL_nil.mp hv
    exact wpAny_assignInOrder_none ⟨S, hE', fun y_ y_ y_ e => e, rfl, fun x => x⟩
  | cons x q ts p ps r r' hx h ih =>
    refine rlc hv fun v vr h1 h2 => ?_
    refine wpAny_assignInOrder_more (wpAny_assign_Name (wpAny_mono (put_pv T hx S h1 hE') (fun y_ s' b => ?_) fun y_ y_ e => e))
    exact wpAny_mono (ih b.st (h2.put b.kept) b.entry) (fun y_ s'' b' => b.trans b') fun y_ y_ e => e

theorem bindT_ok (hh : A.handled = none) (T : StorL hE sc env) {t : Expr} {p : PV} {v : Value} (h : bindT sc t p r = some r') (S : St hB B sc env W r s.heap) (hv : Rd s.heap (VE B env W []) p v)
    (hE' : ∀ b o, hE.get? b = some o -> s.heap.get? b = some o) :
    wpAny (model prog w) A (assign t env v) (fun y_ s' => Bound hE hB B sc env W r' s s') NoE s := by
  have H := bt h; clear h
  induction H with
  | name x q p r hx => exact wpAny_assign_Name (put_pv T hx S hv hE')
  | tup ts k q ps r r' h =>
    refine rtu hv fun a vs nv l1 r1 => ?_
    obtain ⟨b1, b2⟩ := bindTs_len h
    obtain ⟨c1, c2⟩ := assignEach_names (env := env) b2
    refine wpAny_assign_Tuple hh l1 (by rw [c1, b1]; exact r1.length.symm) c2 fun h' hx => ?_
    have g : ∀ b o, s.heap.get? b = some o -> h'.get? b = some o := fun b o e => hx b o (Nat.ne_of_lt (Heap.lt_size e)) e
    exact wpAny_mono (bindTs_ok (s := { s with heap := h' }) T h (S.ext g) (r1.gr (Gr.of_ext g)) fun b o e => g b o (hE' b o e)) (fun y_ s' b => ⟨b.st, b.entry, fun x o n e => b.kept x o n (g x o e), b.os, b.gens⟩) fun y_ y_ e => e
end
end

section
open PySem PyProof.Rows

section
variable {prog : Program} {w : World} {A : Around} {s : Shared} {hB hE : Heap} {B : Av} {sc : Scope} {env : Env} {W : Own} {r r' : Internal.Loc} {o : Orc} {k : Nat}

noncomputable def clFold (env : Env) : List (Str × NameKind) -> List (Str × Addr) -> List (Str × Addr)
  | [], acc => acc
  | (n, .free) :: l, acc => match env.cells.lookup n with
    | some c => clFold env l ((n, c) :: acc)
    | Option.none => clFold env l acc
  | _ :: l, acc => clFold env l acc

theorem clFold_r {n : Str} {l : List (Str × NameKind)} {acc : List (Str × Addr)} {y : Option Addr} (e : env.cells.lookup n = y) : clFold env ((n, .free) :: l) acc = (match (generalizing := false) y with | some c => clFold env l ((n, c) :: acc) | Option.none => clFold env l acc) := by subst e; rfl
theorem clFold_o {n : Str} {kd : NameKind} {l : List (Str × NameKind)} {acc : List (Str × Addr)} (h : kd ≠ .free) : clFold env ((n, kd) :: l) acc = clFold env l acc := by
  cases kd <;> first | rfl | exact absurd rfl h

theorem closure_forIn (f : Str × NameKind -> List (Str × Addr) -> Sem (ForInStep (List (Str × Addr)))) (hf : ∀ n kd cs, f (n, kd) cs = if kd == .free then (do let a <- cellOf env n; pure (.yield ((n, a) :: cs))) else pure (.yield cs)) :
    ∀ (names : List (Str × NameKind)) (acc : List (Str × Addr)), (∀ x ∈ names, x.2 = .free -> ∃ c, env.cells.lookup x.1 = some c) -> (forIn names acc f : Sem (List (Str × Addr))) = pure (clFold env names acc)
  | [], acc, _ => by rw [List.forIn_nil]; rfl
  | (n, kd) :: l, acc, h => by
    have ih := closure_forIn f hf l
    rw [List.forIn_cons, hf]
    by_cases hk : kd = .free
    . subst hk
      obtain ⟨c, hc⟩ := h (n, .free) List.mem_cons_self rfl
      rw [clFold_r hc]
      simp -iota only [beq_self_eq_true, if_true]
      have : cellOf env n = pure c := by unfold cellOf; rw [hc]
      rw [this]
      simp -iota only [pure_bind]
      exact ih _ fun x hx => h x (List.mem_cons_of_mem _ hx)
    . have hb : (kd == NameKind.free) = false := by simpa -iota using hk
      simp -iota only [hb, Bool.false_eq_true, if_false, pure_bind]
      rw [clFold_o hk]
      exact ih _ fun x hx => h x (List.mem_cons_of_mem _ hx)

theorem closure_eq {s : Scope} (h : ∀ x ∈ s.names, x.2 = .free -> ∃ c, env.cells.lookup x.1 = some c) : closureFor s env = pure (clFold env s.names []) := by
  unfold closureFor
  simp -iota only []
  rw [closure_forIn _ (fun n kd cs => by by_cases hk : kd = .free <;> simp [hk]) _ _ h]
  rfl

theorem clFold_lookup : ∀ (names : List (Str × NameKind)) (acc : List (Str × Addr)) (x : Str) (c : Addr), (clFold env names acc).lookup x = some c -> acc.lookup x = some c \/ ((x, NameKind.free) ∈ names /\ env.cells.lookup x = some c)
  | [], _, _, _, h => .inl h
  | (n, kd) :: l, acc, x, c, h => by
    have step : ∀ acc', (clFold env l acc').lookup x = some c -> (acc'.lookup x = some c -> acc.lookup x = some c \/ ((x, NameKind.free) ∈ (n, kd) :: l /\ env.cells.lookup x = some c)) -> acc.lookup x = some c \/ ((x, NameKind.free) ∈ (n, kd) :: l /\ env.cells.lookup x = some c) := fun acc' h k => by
      rcases clFold_lookup l acc' x c h with q | ⟨q1, q2⟩
      . exact k q
      . exact .inr ⟨List.mem_cons_of_mem _ q1, q2⟩
    by_cases hk : kd = .free
    . subst hk
      cases hd : env.cells.lookup n with
      | some d =>
        rw [clFold_r hd] at h
        refine step _ h fun q => ?_
        rw [List.lookup_cons] at q
        cases hx : x == n with
        | true => rw [hx] at q; refine' q; have := eq_of_beq hx; subst this; exact .inr ⟨List.mem_cons_self, hd⟩
        | false => rw [hx] at q; exact .inl q
      | none => rw [clFold_r hd] at h; exact step _ h fun q => .inl q
    . rw [clFold_o hk] at h; exact step _ h fun q => .inl q

theorem clFold_has : ∀ (names : List (Str × NameKind)) (acc : List (Str × Addr)) (x : Str) (c : Addr), env.cells.lookup x = some c -> ((x, NameKind.free) ∈ names \/ acc.lookup x = some c) -> (∀ d, acc.lookup x = some d -> d = c) -> (clFold env names acc).lookup x = some c
  | [], acc, x, c, _, h, _ => by rcases h with h | h; refine' h; exact h
  | (n, kd) :: l, acc, x, c, hc, h, ha => by
    have other : ((x, NameKind.free) ∈ l \/ acc.lookup x = some c) -> (clFold env l acc).lookup x = some c := fun h => clFold_has l acc x c hc h ha
    have notHere : kd ≠ .free -> (x, NameKind.free) ∈ (n, kd) :: l -> (x, NameKind.free) ∈ l := fun hk h => by
      rcases List.mem_cons.mp h with e | e
      . refine' e; exact absurd rfl hk
      . exact e
    by_cases hk : kd = .free
    . subst hk
      by_cases hx : x = n
      . subst hx
        rw [clFold_r hc]
        exact clFold_has l _ x c hc (.inr (by simp -iota)) (fun d hd => by simpa -iota using hd.symm)
      . have hx' : (x == n) = false := by simpa -iota using hx
        have hm : ((x, NameKind.free) ∈ l \/ acc.lookup x = some c) := h.imp (fun h => by
          rcases List.mem_cons.mp h with e | e
          . refine' e; exact absurd rfl hx
          . exact e) id
        cases hd : env.cells.lookup n with
        | some d =>
          rw [clFold_r hd]
          refine clFold_has l _ x c hc (hm.imp id fun q => by rw [List.lookup_cons, hx']; exact q) (fun d hd => ha d (by rw [List.lookup_cons, hx'] at hd; exact hd))
        | none => rw [clFold_r hd]; exact other hm
    . rw [clFold_o hk]; exact other (h.imp (notHere hk) id)

structure NewCells (h h' : Heap) (names : List (Str × NameKind)) (acc cs : List (Str × Addr)) : Prop where
  keeps : ∀ b o, h.get? b = some o -> h'.get? b = some o
  old : ∀ x, (x, NameKind.cell) ∉ names -> cs.lookup x = acc.lookup x
  new : ∀ x, (x, NameKind.cell) ∈ names -> ∃ c, cs.lookup x = some c /\ h.objs.size <= c /\ h'.IsCell c Option.none
  inj : (∀ z d, acc.lookup z = some d -> d < h.objs.size) -> ∀ x y c, h.objs.size <= c -> cs.lookup x = some c -> cs.lookup y = some c -> x = y

theorem newCells_aux : ∀ (names : List (Str × NameKind)) (h : Heap) (acc : List (Str × Addr)) (lo : Nat), lo <= h.objs.size ->
    (∀ x c, acc.lookup x = some c -> lo <= c -> h.IsCell c Option.none) -> (∀ z d, acc.lookup z = some d -> d < h.objs.size) -> (∀ x y c, lo <= c -> acc.lookup x = some c -> acc.lookup y = some c -> x = y) ->
    (∀ b o, h.get? b = some o -> (pushCells h names).get? b = some o) /\
    (∀ x, (x, NameKind.cell) ∉ names -> (cellsFrom h.objs.size names acc).lookup x = acc.lookup x) /\
    (∀ x, (x, NameKind.cell) ∈ names -> ∃ c, (cellsFrom h.objs.size names acc).lookup x = some c /\ h.objs.size <= c /\ (pushCells h names).IsCell c Option.none) /\
    (∀ x y c, lo <= c -> (cellsFrom h.objs.size names acc).lookup x = some c -> (cellsFrom h.objs.size names acc).lookup y = some c -> x = y)
  | [], h, acc, lo, _, _, _, hi => ⟨fun y_ y_ e => e, fun y_ y_ => rfl, fun y_ hx => (nomatch hx), hi⟩
  | (n, kd) :: l, h, acc, lo, hlo, he, hlt, hi => by
    by_cases hk : kd = .cell
    . subst hk
      have hsz : (h.push { cls := .type "cell", data := .cell Option.none }).objs.size = h.objs.size + 1 := Heap.size_push ..
      have hnew : (h.push { cls := .type "cell", data := .cell Option.none }).IsCell h.objs.size Option.none := ⟨_, Heap.get?_push_size _ rfl, rfl⟩
      obtain ⟨i1, i2, i3, i4⟩ := newCells_aux l (h.push { cls := .type "cell", data := .cell Option.none }) ((n, h.objs.size) :: acc) lo (by rw [hsz]; exact Nat.le_succ_of_le hlo)
        (fun x c hx hc => by
          rw [List.lookup_cons] at hx
          cases hb : x == n with
          | true => rw [hb] at hx; refine' hx; exact hnew
          | false => rw [hb] at hx; exact (he x c hx hc).keeps fun b o e => Heap.get?_push_of_some _ e)
        (fun z d hz => by
          rw [hsz]
          rw [List.lookup_cons] at hz
          cases hb : z == n with
          | true => rw [hb] at hz; refine' hz; exact Nat.lt_succ_self _
          | false => rw [hb] at hz; exact Nat.lt_succ_of_lt (hlt z d hz))
        (fun x y c hc hx hy => by
          rw [List.lookup_cons] at hx hy
          cases hb : x == n with
          | true =>
            rw [hb] at hx; refine' hx
            cases hb' : y == n with
            | true => rw [eq_of_beq hb, eq_of_beq hb']
            | false => rw [hb'] at hy; exact absurd (hlt y _ hy) (Nat.lt_irrefl _)
          | false =>
            rw [hb] at hx
            cases hb' : y == n with
            | true => rw [hb'] at hy; refine' hy; exact absurd (hlt x _ hx) (Nat.lt_irrefl _)
            | false => rw [hb'] at hy; exact hi x y c hc hx hy)
      rw [hsz] at i2 i3 i4
      have e1 : cellsFrom h.objs.size ((n, NameKind.cell) :: l) acc = cellsFrom (h.objs.size + 1) l ((n, h.objs.size) :: acc) := by simp [cellsFrom]
      have e2 : pushCells h ((n, NameKind.cell) :: l) = pushCells (h.push { cls := .type "cell", data := .cell Option.none }) l := by simp [pushCells]
      rw [e1, e2]
      refine ⟨fun b o e => i1 b o (Heap.get?_push_of_some _ e), fun x hx => ?_, fun x hx => ?_, i4⟩
      . have hxn : x ≠ n := fun e => hx (by rw [e]; exact List.mem_cons_self)
        rw [i2 x fun q => hx (List.mem_cons_of_mem _ q), List.lookup_cons, show (x == n) = false from by simpa -iota using hxn]
      . by_cases hxl : (x, NameKind.cell) ∈ l
        . refine cps fun U J => ?_
          obtain ⟨c, h1, h2, h3⟩ := i3 x hxl
          refine J ?_; clear J U
          exact ⟨c, h1, Nat.le_of_succ_le h2, h3⟩
        . have hxn : x = n := by
            rcases List.mem_cons.mp hx with e | e
            . refine' e; rfl
            . exact absurd e hxl
          subst hxn
          refine ⟨h.objs.size, ?_, Nat.le_refl _, hnew.keeps i1⟩
          rw [i2 x hxl]; simp -iota
    . have hb : (kd == NameKind.cell) = false := by simpa -iota using hk
      have e1 : cellsFrom h.objs.size ((n, kd) :: l) acc = cellsFrom h.objs.size l acc := by simp [cellsFrom, hb]
      have e2 : pushCells h ((n, kd) :: l) = pushCells h l := by simp [pushCells, hb]
      refine cps fun U J => ?_
      obtain ⟨i1, i2, i3, i4⟩ := newCells_aux l h acc lo hlo he hlt hi
      refine J ?_; clear J U
      rw [e1, e2]
      refine ⟨i1, fun x hx => i2 x fun q => hx (List.mem_cons_of_mem _ q), fun x hx => ?_, i4⟩
      rcases List.mem_cons.mp hx with e | e
      . refine' e; exact absurd rfl hk
      . exact i3 x e

noncomputable def compEnv (env : Env) (s : Scope) (C : Addr) (cl : List (Str × Addr)) : Env :=
  { scope := s, locals := C, globals := env.globals, cells := cellsFrom (C + 1) s.names cl, qual := env.qual, func := Option.none, code := env.code, frame := env.frame, builtins := env.builtins }

theorem newEnv_ok {E : Value -> Shared -> Prop} {cs : Scope} {cl : List (Str × Addr)} {Q : Env -> Shared -> Prop}
    (h : Q (compEnv env cs s.heap.objs.size cl) { s with heap := pushCells (s.heap.push { cls := .type "dict", data := .dict #[] }) cs.names }) :
    wpAny (model prog w) A (newFunctionEnv cs env.globals cl [] env.qual Option.none .none (some env)) Q E s := by
  simp only [newFunctionEnv, Option.isSome_some, if_true]
  refine wpAny_bind (wpAny_alloc ?_)
  refine wpAny_bind (wpAny_layCells _ (fun name kind cells => by cases hkc : kind == NameKind.cell <;> simp [hkc]) _ _ _ _ ?_)
  rw [show ({ s with heap := s.heap.push { cls := .type "dict", data := .dict #[] } } : Shared).heap.objs.size = s.heap.objs.size + 1 from Heap.size_push ..]
  simp -iota only [List.forIn_nil]
  exact wpAny_bind (wpAny_pure (wpAny_pure h))
end
end

section
open PySem PyProof.Rows

section
variable {prog : Program} {w : World} {A : Around} {s : Shared} {hB hE : Heap} {B : Av} {sc cs : Scope} {env : Env} {W : Own} {r r' : Internal.Loc} {o : Orc} {k : Nat}

structure OkComp (sc cs : Scope) : Prop where
  kind : cs.kind = .function
  mem : ∀ x k, (x, k) ∈ cs.names -> kd cs x = some k
  dbg : ∀ x k, (x, k) ∈ cs.names -> (x == ("__debug__" : Str)) = false
  cls : ∀ x k, (x, k) ∈ cs.names -> (x == ("__classdict__" : Str)) = false
  free : ∀ x, (x, NameKind.free) ∈ cs.names -> kd sc x = some .cell \/ kd sc x = some .free

theorem okComp_of (h : okComp sc cs = true) : OkComp sc cs := by
  unfold okComp at h
  simp -iota only [Bool.and_eq_true, List.all_eq_true, beq_iff_eq, Bool.or_eq_true, bne_iff_ne] at h
  obtain ⟨h1, h2⟩ := h
  refine ⟨h1, fun x k hx => ?_, fun x k hx => ?_, fun x k hx => ?_, fun x hx => ?_⟩
  . exact (h2 _ hx).1.2
  . simpa -iota using (h2 _ hx).1.1.1
  . simpa -iota using (h2 _ hx).1.1.2
  . have := (h2 _ hx).2
    rcases this with (a | a) | a
    . exact absurd rfl a
    . exact .inl a
    . exact .inr a
theorem mem_of_kd {x : Str} {k : NameKind} (h : kd cs x = some k) : (x, k) ∈ cs.names := mem_of_lookup h

theorem relabel_kind : ∀ (names : List (Str × NameKind)) (x : Str), (names.map fun (n, k) => if (k == NameKind.free && env.scope.kind == .function && env.kindOf n == some .cell) then (n, NameKind.cell) else (n, k)).lookup x =
    match names.lookup x with
    | some .free => if env.scope.kind = .function /\ env.kindOf x = some .cell then some .cell else some .free
    | q => q
  | [], x => by simp
  | (n, k) :: l, x => by
    rw [List.map_cons, List.lookup_cons]
    by_cases hc : (k == NameKind.free && env.scope.kind == .function && env.kindOf n == some .cell) = true
    . simp -iota only [hc, if_true, List.lookup_cons]
      simp -iota only [Bool.and_eq_true, beq_iff_eq] at hc
      refine cps fun U J => ?_
      obtain ⟨⟨rfl, h2⟩, h3⟩ := hc
      refine J ?_; clear J U
      cases hx : x == n with
      | true => have := eq_of_beq hx; subst this; simp [h2, h3]
      | false => exact relabel_kind l x
    . simp -iota only [hc, Bool.false_eq_true, if_false, List.lookup_cons]
      cases hx : x == n with
      | true =>
        have := eq_of_beq hx; subst this
        simp -iota only [Bool.and_eq_true, beq_iff_eq] at hc
        refine' k <;> simp_all
      | false => exact relabel_kind l x

noncomputable def cenvOf (env : Env) (cs : Scope) (C : Addr) (cl : List (Str × Addr)) : Env := { compEnv env cs C cl with scope := relabel cs env }

theorem cenv_kind (x : Str) (C : Addr) (cl : List (Str × Addr)) : (cenvOf env cs C cl).kindOf x = match kd cs x with
    | some .free => if env.scope.kind = .function /\ env.kindOf x = some .cell then some .cell else some .free
    | q => q := relabel_kind cs.names x

noncomputable def Wc (cs : Scope) (W : Own) : Own := fun x => if kd cs x = some .free then W x else Option.none
noncomputable def Bc (B : Av) (env : Env) (W : Own) (cs : Scope) (X : Av) : Av := fun b => (VE B env W [] b /\ ¬ ∃ x, kd cs x = some .free /\ W x = some b) \/ X b

structure CompAt (h1 h3 h4 : Heap) (C : Addr) (cl cells : List (Str × Addr)) (cs : Scope) (env : Env) (X : Av) : Prop where
  k13 : ∀ b o, h1.get? b = some o -> h3.get? b = some o
  k34 : ∀ b o, h3.get? b = some o -> h4.get? b = some o
  freshC : h3.get? C = Option.none
  nsC : h4.Ns C (fun y_ => Option.none)
  clOf : ∀ x c, cl.lookup x = some c ↔ (kd cs x = some .free /\ env.cells.lookup x = some c)
  old : ∀ x, kd cs x ≠ some .cell -> cells.lookup x = cl.lookup x
  new : ∀ x, kd cs x = some .cell -> ∃ c, cells.lookup x = some c /\ h3.get? c = Option.none /\ c ≠ C /\ h4.IsCell c Option.none
  inj : ∀ x y c, h3.get? c = Option.none -> cells.lookup x = some c -> cells.lookup y = some c -> x = y
  xNew : ∀ b, X b -> h1.get? b = Option.none /\ ∃ o, h3.get? b = some o

theorem compSt {h1 h3 h4 : Heap} {C : Addr} {cl : List (Str × Addr)} {X : Av} (S : St hB B sc env W r h1) (O : OkComp sc cs) (Y : CompAt h1 h3 h4 C cl (cellsFrom (C + 1) cs.names cl) cs env X) :
    St hB (Bc B env W cs X) cs (cenvOf env cs C cl) (Wc cs W) (under cs r) h4 /\ StorL h1 cs (cenvOf env cs C cl) /\
    (∀ b, VE (Bc B env W cs X) (cenvOf env cs C cl) (Wc cs W) [] b -> VE B env W [] b \/ h1.get? b = Option.none) /\
    (∀ x c, (cenvOf env cs C cl).cells.lookup x = some c -> (∃ o, h1.get? c = some o) \/ h3.get? c = Option.none) := by
  have k14 : ∀ b o, h1.get? b = some o -> h4.get? b = some o := fun b o e => Y.k34 b o (Y.k13 b o e)
  have cellsIn : ∀ x c, (cenvOf env cs C cl).cells.lookup x = some c -> (kd cs x = some .free /\ env.cells.lookup x = some c) \/ (kd cs x = some .cell /\ h3.get? c = Option.none /\ c ≠ C /\ h4.IsCell c Option.none) := by
    intro x c hx
    by_cases hk : kd cs x = some .cell
    . refine cps fun U J => ?_
      obtain ⟨d, hd, r1, r2, r3⟩ := Y.new x hk
      refine J ?_; clear J U
      have : (cenvOf env cs C cl).cells.lookup x = some d := hd
      rw [hx] at this; refine' this
      exact .inr ⟨hk, r1, r2, r3⟩
    . have : (cenvOf env cs C cl).cells.lookup x = cl.lookup x := Y.old x hk
      rw [hx] at this
      exact .inl ((Y.clOf x c).mp this.symm)
  have alloc1 : ∀ x c, env.cells.lookup x = some c -> ∃ o, h1.get? c = some o := fun x c e => S.laid c (.inr (.inr (.inl ⟨x, e⟩)))
  have none1 : ∀ b, h3.get? b = Option.none -> h1.get? b = Option.none := fun b e => by
    cases q : h1.get? b with
    | none => rfl
    | some o => rw [Y.k13 b o q] at e; refine' e
  have veC : ∀ b, VE (Bc B env W cs X) (cenvOf env cs C cl) (Wc cs W) [] b -> VE B env W [] b \/ (h1.get? b = Option.none /\ ∃ o, h4.get? b = some o) := by
    rintro b ((⟨v, _⟩ | v) | v | ⟨x, v⟩ | ⟨x, _, v⟩)
    . exact .inl v
    . obtain ⟨a, o, e⟩ := Y.xNew b v; exact .inr ⟨a, o, Y.k34 b o e⟩
    . have : b = C := v
      subst this
      refine cps fun U J => ?_
      obtain ⟨o, _, _, e, _⟩ := Y.nsC
      refine J ?_; clear J U
      exact .inr ⟨none1 _ Y.freshC, o, e⟩
    . rcases cellsIn x b v with ⟨_, e⟩ | ⟨_, a, _, o, e, _⟩
      . exact .inl (.inr (.inr (.inl ⟨x, e⟩)))
      . exact .inr ⟨none1 _ a, o, e⟩
    . unfold Wc at v
      split at v
      . exact .inl (.inr (.inr (.inr ⟨x, by simp, v⟩)))
      . refine' v
  have allocOf : ∀ x a, W x = some a -> ∃ o, h1.get? a = some o := fun x a e => S.laid a (.inr (.inr (.inr ⟨x, by simp, e⟩)))
  refine ⟨⟨⟨O.kind, S.envs.globals, S.envs.builtins⟩, fun x => ?_, fun x hx => ?_, fun x k hk => ?_, fun b o e => k14 b o (S.base b o e), fun b v => ?_, fun b v => ?_, fun x a hx => ?_, ⟨_, Y.nsC, fun x sl hk hu => ?_⟩, fun x hk => ?_⟩, ⟨?_, ?_, ?_, ?_⟩, fun b v => (veC b v).imp id fun q => q.1, fun x c hx => (cellsIn x c hx).imp (fun q => alloc1 x c q.2) fun q => q.2.1⟩
  . rw [cenv_kind]
    cases q : kd cs x with
    | none => exact .inl rfl
    | some k =>
      refine' k <;> try exact .inl rfl
      by_cases hc : env.scope.kind = .function /\ env.kindOf x = some .cell
      . exact .inr ⟨rfl, by simp [hc]⟩
      . exact .inl (by simp [hc])
  . rw [cenv_kind] at hx
    cases q : kd cs x with
    | none => rw [q] at hx; refine' hx
    | some k => exact O.cls x k (mem_of_kd q)
  . exact O.dbg x k (mem_of_kd hk)
  . rcases veC b v with q | ⟨_, q⟩
    . obtain ⟨o, ho⟩ := S.laid b q; exact ⟨o, k14 b o ho⟩
    . exact q
  . rcases veC b v with q | ⟨q, _⟩
    . exact S.apart b q
    . cases e : hB.get? b with
      | none => rfl
      | some o => rw [S.base b o e] at q; refine' q
  . unfold Wc at hx
    split at hx
    . rename_i hk
      refine cps fun U J => ?_
      obtain ⟨h1', h2', h3', h4'⟩ := S.own x a hx
      obtain ⟨oa, hoa⟩ := allocOf x a hx
      refine J ?_; clear J U
      refine ⟨?_, ?_, ?_, ?_⟩
      . rintro (⟨_, v⟩ | v)
        . exact v ⟨x, hk, hx⟩
        . rw [(Y.xNew a v).1] at hoa; refine' hoa
      . rintro e
        have : a = C := e
        subst this
        rw [none1 _ Y.freshC] at hoa; refine' hoa
      . intro y hy
        rcases cellsIn y a hy with ⟨_, e⟩ | ⟨_, e, _⟩
        . exact h3' y e
        . rw [none1 _ e] at hoa; refine' hoa
      . intro y hy
        unfold Wc at hy
        split at hy
        . exact h4' y hy
        . refine' hy
    . refine' hx
  . unfold under at hu
    rw [hk] at hu; refine' hu
  . rcases hk with hk | hk
    . refine cps fun U J => ?_
      obtain ⟨c, hc, _, _, hcell⟩ := Y.new x hk
      refine J ?_; clear J U
      exact ⟨c, hc, Option.none, hcell, fun sl hu => by unfold under at hu; rw [hk] at hu; refine' hu⟩
    . refine cps fun U J => ?_
      obtain ⟨c, hc, vo, hv, q⟩ := S.cel x (O.free x (mem_of_kd hk))
      refine J ?_; clear J U
      have hl : (cenvOf env cs C cl).cells.lookup x = some c := by
        show (cellsFrom (C + 1) cs.names cl).lookup x = some c
        rw [Y.old x (by rw [hk]; intro e; refine' e)]
        exact (Y.clOf x c).mpr ⟨hk, hc⟩
      refine ⟨c, hl, vo, hv.keeps k14, fun sl hu => ?_⟩
      unfold under at hu
      rw [hk] at hu
      obtain ⟨v, h5, h6⟩ := q sl hu
      refine ⟨v, h5, h6.mono (fun b o y_ e => k14 b o e) (fun b o e v => ?_) (by simp -iota [Wc, hk])⟩
      rcases veC b v with q | ⟨q, _⟩
      . exact q
      . rw [q] at e; refine' e
  . exact none1 _ Y.freshC
  . intro x c hk hx
    rcases cellsIn x c hx with ⟨e, _⟩ | ⟨_, e, _⟩
    . rw [hk] at e; refine' e
    . exact none1 _ e
  . intro x c hx e
    have : c = C := e
    subst this
    rcases cellsIn x c hx with ⟨_, e⟩ | ⟨_, _, e, _⟩
    . obtain ⟨o, ho⟩ := alloc1 x c e
      rw [none1 _ Y.freshC] at ho; refine' ho
    . exact e rfl
  . intro x y c hk hx hy
    rcases cellsIn x c hx with ⟨e, _⟩ | ⟨_, e, _⟩
    . rw [hk] at e; refine' e
    . exact Y.inj x y c e hx hy

theorem ve_in {h : Heap} {X : Av} {C : Addr} {cl : List (Str × Addr)} {xs : List Str} (S : St hB B sc env W r h) : ∀ b, VE B env W xs b -> VE (Bc B env W cs X) (cenvOf env cs C cl) (Wc cs W) xs b := by
  rintro b (v | v | ⟨x, v⟩ | ⟨x, hx, v⟩)
  . exact .inl (.inl ⟨.inl v, fun ⟨y, _, e⟩ => (S.own y b e).1 v⟩)
  . exact .inl (.inl ⟨.inr (.inl v), fun ⟨y, _, e⟩ => (S.own y b e).2.1 v⟩)
  . exact .inl (.inl ⟨.inr (.inr (.inl ⟨x, v⟩)), fun ⟨y, _, e⟩ => (S.own y b e).2.2.1 x v⟩)
  . by_cases hk : kd cs x = some .free
    . exact .inr (.inr (.inr ⟨x, hx, by simp -iota [Wc, hk, v]⟩))
    . refine .inl (.inl ⟨.inr (.inr (.inr ⟨x, by simp, v⟩)), fun ⟨y, hy, e⟩ => ?_⟩)
      have := (S.own y b e).2.2.2 x v
      subst this
      exact hk hy

theorem compAt_of {h1 h2 : Heap} {X : Av} {D : Addr} (O : OkComp sc cs) (S : St hB B sc env W r h1) (k12 : ∀ b o, h1.get? b = some o -> h2.get? b = some o) (hX : ∀ b, X b -> h1.get? b = Option.none /\ ∃ o, h2.get? b = some o) :
    closureFor cs env = pure (clFold env cs.names []) /\
    CompAt h1 h2 (pushCells (h2.push { cls := .type "dict", data := .dict #[] }) cs.names) h2.objs.size (clFold env cs.names []) (cellsFrom (h2.objs.size + 1) cs.names (clFold env cs.names [])) cs env X := by
  have hfree : ∀ x ∈ cs.names, x.2 = .free -> ∃ c, env.cells.lookup x.1 = some c := by
    rintro ⟨x, k⟩ hx rfl
    obtain ⟨c, hc, _⟩ := S.cel x (O.free x hx)
    exact ⟨c, hc⟩
  refine ⟨closure_eq hfree, ?_⟩
  have hcl : ∀ x c, (clFold env cs.names []).lookup x = some c ↔ (kd cs x = some .free /\ env.cells.lookup x = some c) := by
    intro x c
    constructor
    . intro h
      rcases clFold_lookup cs.names [] x c h with q | ⟨q1, q2⟩
      . refine' q
      . exact ⟨O.mem x _ q1, q2⟩
    . rintro ⟨h1, h2⟩
      exact clFold_has cs.names [] x c h2 (.inl (mem_of_kd h1)) (fun d hd => nomatch hd)
  have hsz : (h2.push { cls := .type "dict", data := .dict #[] }).objs.size = h2.objs.size + 1 := Heap.size_push ..
  have clLt : ∀ z d, (clFold env cs.names []).lookup z = some d -> d < h2.objs.size := by
    intro z d hz
    obtain ⟨_, e⟩ := (hcl z d).mp hz
    obtain ⟨o, ho⟩ := S.laid d (.inr (.inr (.inl ⟨z, e⟩)))
    exact Heap.lt_size (k12 d o ho)
  obtain ⟨i1, i2, i3, i4⟩ := newCells_aux cs.names (h2.push { cls := .type "dict", data := .dict #[] }) (clFold env cs.names []) (h2.objs.size + 1) (by rw [hsz]; exact Nat.le_refl _)
    (fun x c hx hc => absurd (clLt x c hx) (Nat.not_lt.mpr (Nat.le_of_succ_le hc))) (fun z d hz => by rw [hsz]; exact Nat.lt_succ_of_lt (clLt z d hz)) (fun x y c hc hx y_ => absurd (clLt x c hx) (Nat.not_lt.mpr (Nat.le_of_succ_le hc)))
  rw [hsz] at i2 i3 i4
  have nf : ∀ c, h2.objs.size <= c -> h2.get? c = Option.none := fun c hc => Heap.get?_none_of_le hc
  refine ⟨k12, fun b o e => i1 b o (Heap.get?_push_of_some _ e), size_free _, (Heap.Ns.new h2 (.type "dict")).keeps i1, hcl, fun x hx => i2 x fun q => hx (O.mem x _ q), fun x hx => ?_, fun x y c hc hx hy => ?_, hX⟩
  . refine cps fun U J => ?_
    obtain ⟨c, h1, h2', h3⟩ := i3 x (mem_of_kd hx)
    refine J ?_; clear J U
    exact ⟨c, h1, nf c (Nat.le_of_succ_le h2'), Nat.ne_of_gt h2', h3⟩
  . by_cases hle : h2.objs.size + 1 <= c
    . exact i4 x y c hle hx hy
    . exfalso
      by_cases hk : (x, NameKind.cell) ∈ cs.names
      . refine cps fun U J => ?_
        obtain ⟨d, e1, e2, _⟩ := i3 x hk
        refine J ?_; clear J U
        rw [hx] at e1; refine' e1; exact hle e2
      . rw [i2 x hk] at hx
        obtain ⟨_, e⟩ := (hcl x c).mp hx
        obtain ⟨o, ho⟩ := S.laid c (.inr (.inr (.inl ⟨x, e⟩)))
        rw [k12 c o ho] at hc; refine' hc
end
end

section
open PySem PyProof.Rows

section
variable {prog : Program} {w : World} {A : Around} {s : Shared} {hB hE : Heap} {B : Av} {sc cs : Scope} {env : Env} {W : Own} {r r' : Internal.Loc} {o : Orc} {k : Nat}

noncomputable def EvOk (prog : Program) (w : World) (hB : Heap) (k : Nat) (o : Orc) (e : Expr) : Prop :=
  ∀ (sc : Scope) (env : Env) (B : Av) (W : Own) (r : Internal.Loc) (s : Shared) (p : PV) (A : Around), Room k A -> AllBare s.gens -> St hB B sc env W r s.heap -> ev o sc e r = some p ->
    wpAny (model prog w) A (eval e env) (fun v s' => Ext s s' /\ Rd s'.heap (VE B env W (esc e)) p v /\ RdS s'.heap (VE B env W (esc.esc' e)) p v) NoE s

noncomputable def TrOk (prog : Program) (w : World) (hB : Heap) (k : Nat) (o : Orc) (e : Expr) : Prop :=
  ∀ (sc : Scope) (env : Env) (B : Av) (W : Own) (r : Internal.Loc) (s : Shared) (p : PV) (b : Bool) (A : Around), Room k A -> AllBare s.gens -> St hB B sc env W r s.heap -> ev o sc e r = some p -> truth p = some b ->
    wpAny (model prog w) A (isTrue e env (eval e env)) (fun c s' => c = b /\ Ext s s') NoE s

theorem ifs_ok : ∀ {ifs : List Expr}, (∀ c ∈ ifs, TrOk prog w hB k o c) -> ∀ {s : Shared} {b : Bool}, Room k A -> AllBare s.gens -> St hB B sc env W r s.heap -> evIfs o sc ifs r = some b ->
    wpAny (model prog w) A (forIn ifs true fun c r => if r = true then do let ok <- isTrue c env (eval c env); pure (ForInStep.yield ok) else pure (ForInStep.yield r)) (fun c s' => c = b /\ Ext s s') NoE s := by
  have stay : ∀ {ifs : List Expr} {s : Shared}, wpAny (model prog w) A (forIn ifs false fun c r => if r = true then do let ok <- isTrue c env (eval c env); pure (ForInStep.yield ok) else pure (ForInStep.yield r)) (fun c s' => c = false /\ Ext s s') NoE s := by
    intro ifs
    induction ifs with
    | nil => intro s; exact wpAny_pure ⟨rfl, .refl⟩
    | cons c l ih =>
      intro s
      rw [List.forIn_cons]
      simp -iota only [Bool.false_eq_true, if_false]
      exact wpAny_bind (wpAny_pure ih)
  intro ifs
  induction ifs with
  | nil => intro _ s b R G S h; simp -iota only [v_i0, v_i1, Option.some.injEq] at h; subst h; exact wpAny_pure ⟨rfl, .refl⟩
  | cons c l ih =>
    intro H s b R G S h
    simp -iota only [v_i0, v_i1] at h
    refine cps fun U J => ?_
    obtain ⟨x, hx, h⟩ := Option.bind_eq_some_iff.mp h
    obtain ⟨t, ht, h⟩ := Option.bind_eq_some_iff.mp h
    refine J ?_; clear J U
    rw [List.forIn_cons]
    simp -iota only [if_true]
    refine wpAny_bind (wpAny_bind (wpAny_mono (H c List.mem_cons_self sc env B W r s x t A R G S hx ht) (fun c' s' q => ?_) fun y_ y_ e => e.elim))
    obtain ⟨rfl, e⟩ := q
    refine wpAny_pure ?_
    cases c' with
    | true =>
      simp -iota only [if_true] at h
      exact wpAny_mono (ih (fun c hc => H c (List.mem_cons_of_mem _ hc)) R (e.gens G) (S.ext e.heap) h) (fun y_ s'' q => ⟨q.1, e.trans q.2⟩) fun y_ y_ e => e
    | false =>
      simp -iota only [Bool.false_eq_true, if_false, Option.some.injEq] at h
      subst h
      exact wpAny_mono stay (fun y_ s'' q => ⟨q.1, e.trans q.2⟩) fun y_ y_ e => e

structure CPost (hB h1 : Heap) (B : Av) (cs : Scope) (cenv : Env) (W : Own) (r : Internal.Loc) (xs : List Str) (D : Addr) (wr : List Addr) (qs : List PV) (s s' : Shared) : Prop where
  st : St hB (fun b => B b /\ b ∉ wr) cs cenv W r s'.heap
  entry : ∀ b o, h1.get? b = some o -> s'.heap.get? b = some o
  acc : ∃ vs, s'.heap.PlainList D vs /\ RdL s'.heap (VE B cenv W xs) qs vs.toList
  kept : ∀ b o, ¬ Put cs cenv b -> b ≠ D -> b ∉ wr -> s.heap.get? b = some o -> s'.heap.get? b = some o
  os : s'.os = s.os
  gens : AllBare s.gens -> AllBare s'.gens

theorem St.more {h h' : Heap} {X : Av} (S : St hB B sc env W r h) (g : ∀ b o, h.get? b = some o -> h'.get? b = some o) (hX : ∀ b, X b -> h.get? b = Option.none /\ ∃ o, h'.get? b = some o) :
    St hB (fun b => B b \/ X b) sc env W r h' := by
  have ve : ∀ b, VE (fun b => B b \/ X b) env W [] b -> VE B env W [] b \/ X b := by
    rintro b ((v | v) | v | v | v)
    . exact .inl (.inl v)
    . exact .inr v
    . exact .inl (.inr (.inl v))
    . exact .inl (.inr (.inr (.inl v)))
    . exact .inl (.inr (.inr (.inr v)))
  have mv : ∀ {y sl v}, Sl h (VE B env W []) W y sl v -> Sl h' (VE (fun b => B b \/ X b) env W []) W y sl v := fun q => q.mono (fun b o y_ e => g b o e) (fun b o e v => by
    rcases ve b v with q | q
    . exact q
    . rw [(hX b q).1] at e; refine' e) rfl
  refine ⟨S.envs, S.same, S.noClass, S.noDebug, fun b o e => g b o (S.base b o e), fun b v => ?_, fun b v => ?_, fun x a hx => ?_, ?_, ?_⟩
  . rcases ve b v with q | q
    . obtain ⟨o, ho⟩ := S.laid b q; exact ⟨o, g b o ho⟩
    . exact (hX b q).2
  . rcases ve b v with q | q
    . exact S.apart b q
    . cases e : hB.get? b with
      | none => rfl
      | some o => have := S.base b o e; rw [(hX b q).1] at this; refine' this
  . refine cps fun U J => ?_
    obtain ⟨h1, h2, h3, h4⟩ := S.own x a hx
    refine J ?_; clear J U
    refine ⟨?_, h2, h3, h4⟩
    rintro (q | q)
    . exact h1 q
    . obtain ⟨o, ho⟩ := S.laid a (.inr (.inr (.inr ⟨x, by simp, hx⟩)))
      rw [(hX a q).1] at ho; refine' ho
  . obtain ⟨m, hn, q⟩ := S.loc
    exact ⟨m, hn.keeps g, fun x sl hk e => let ⟨v, h1, h2⟩ := q x sl hk e; ⟨v, h1, mv h2⟩⟩
  . intro x hk
    refine cps fun U J => ?_
    obtain ⟨c, h1, vo, h2, q⟩ := S.cel x hk
    refine J ?_; clear J U
    exact ⟨c, h1, vo, h2.keeps g, fun sl e => let ⟨v, h3, h4⟩ := q sl e; ⟨v, h3, mv h4⟩⟩

theorem St.lessB {h : Heap} {B' : Av} (S : St hB B sc env W r h) (k : ∀ b, B' b -> B b) : St hB B' sc env W r h := by
  have ve : ∀ b, VE B' env W [] b -> VE B env W [] b := by
    rintro b (v | v)
    . exact .inl (k b v)
    . exact .inr v
  have mv : ∀ {y sl v}, Sl h (VE B env W []) W y sl v -> Sl h (VE B' env W []) W y sl v := fun q => q.mono (fun b o y_ e => e) (fun b o e v => ve b v) rfl
  refine ⟨S.envs, S.same, S.noClass, S.noDebug, S.base, fun b v => S.laid b (ve b v), fun b v => S.apart b (ve b v), fun x a hx => ?_, ?_, ?_⟩
  . refine cps fun U J => ?_
    obtain ⟨h1, h2, h3, h4⟩ := S.own x a hx
    refine J ?_; clear J U
    exact ⟨fun q => h1 (k a q), h2, h3, h4⟩
  . obtain ⟨m, hn, q⟩ := S.loc
    exact ⟨m, hn, fun x sl hk e => let ⟨v, h1, h2⟩ := q x sl hk e; ⟨v, h1, mv h2⟩⟩
  . intro x hk
    refine cps fun U J => ?_
    obtain ⟨c, h1, vo, h2, q⟩ := S.cel x hk
    refine J ?_; clear J U
    exact ⟨c, h1, vo, h2, fun sl e => let ⟨v, h3, h4⟩ := q sl e; ⟨v, h3, mv h4⟩⟩

theorem St.chg {h h' : Heap} {B' X : Av} (S : St hB B sc env W r h) (hB' : ∀ b, B' b -> B b) (g : ∀ b o, ¬ X b -> h.get? b = some o -> h'.get? b = some o) (hX : ∀ b, X b -> B b /\ b ≠ env.locals /\ ∀ x, env.cells.lookup x ≠ some b)
    (al : ∀ b, B' b -> X b -> ∃ o, h'.get? b = some o) : St hB B' sc env W r h' := by
  have ve : ∀ b, VE B' env W [] b -> VE B env W [] b := by
    rintro b (v | v)
    . exact .inl (hB' b v)
    . exact .inr v
  have mv : ∀ {y sl v}, Sl h (VE B env W []) W y sl v -> Sl h' (VE B' env W []) W y sl v := fun q => q.mono (fun b o n e => g b o (fun x => by
    rcases n with n | n
    . exact n (.inl (hX b x).1)
    . exact (S.own _ b n).1 (hX b x).1) e) (fun b o e v => ve b v) rfl
  have nb : ∀ b, VE B' env W [] b -> (∃ o, h'.get? b = some o) := by
    intro b v
    by_cases hx : X b
    . rcases v with v | v | ⟨x, v⟩ | ⟨x, _, v⟩
      . exact al b v hx
      . exact absurd v (hX b hx).2.1
      . exact absurd v ((hX b hx).2.2 x)
      . exact absurd (hX b hx).1 (S.own x b v).1
    . obtain ⟨o, ho⟩ := S.laid b (ve b v); exact ⟨o, g b o hx ho⟩
  refine ⟨S.envs, S.same, S.noClass, S.noDebug, fun b o e => g b o (fun x => by rw [S.apart b (.inl (hX b x).1)] at e; refine' e) (S.base b o e), nb, fun b v => S.apart b (ve b v), fun x a hx => ?_, ?_, ?_⟩
  . refine cps fun U J => ?_
    obtain ⟨h1, h2, h3, h4⟩ := S.own x a hx
    refine J ?_; clear J U
    exact ⟨fun q => h1 (hB' a q), h2, h3, h4⟩
  . refine cps fun U J => ?_
    obtain ⟨m, ⟨o, es, ep, ho, hn⟩, q⟩ := S.loc
    refine J ?_; clear J U
    exact ⟨m, ⟨o, es, ep, g _ o (fun x => (hX _ x).2.1 rfl) ho, hn⟩, fun x sl hk e => let ⟨v, h1, h2⟩ := q x sl hk e; ⟨v, h1, mv h2⟩⟩
  . intro x hk
    refine cps fun U J => ?_
    obtain ⟨c, h1, vo, ⟨o, ho, hc⟩, q⟩ := S.cel x hk
    refine J ?_; clear J U
    exact ⟨c, h1, vo, ⟨o, g c o (fun y => (hX c y).2.2 x h1) ho, hc⟩, fun sl e => let ⟨v, h3, h4⟩ := q sl e; ⟨v, h3, mv h4⟩⟩

theorem bts_other {ts : List Expr} {ps : List PV} {r1 r2 : Internal.Loc} {x : Str} (H : BTs sc ts ps r1 r2) (hn : ∀ t ∈ ts, ∀ z q, t = .Name z q -> z ≠ x) : r2 x = r1 x := by
  induction H with
  | nil => rfl
  | cons y q ts p ps r r' hy h ih =>
    rw [ih fun t ht => hn t (List.mem_cons_of_mem _ ht)]
    exact if_neg (Ne.symm (hn _ List.mem_cons_self y q rfl))
theorem bindTs_sub {ts : List Expr} {ps : List PV} {r r' : Internal.Loc} (h : bindTs sc ts ps r = some r') (u : ∀ t ∈ ts, ∀ z q, t = .Name z q -> (r z).isNone = true) (x : Str) (sl : Slot) (e : r x = some sl) : r' x = some sl := by
  rw [bts_other (bts h) fun t ht z q hz hzx => ?_, e]
  have := u t ht z q hz
  rw [hzx, e] at this
  exact bs this

theorem bindT_sub {t : Expr} {p : PV} (h : bindT sc t p r = some r') (u : unbound r t = true) : ∀ x sl, r x = some sl -> r' x = some sl := by
  have H := bt h; clear h
  induction H with
  | name y q p r hy =>
    intro x sl e
    have hxy : x ≠ y := fun q => by
      have u : (r y).isNone = true := u
      rw [<- q, e] at u; exact bs u
    exact (if_neg hxy).trans e
  | tup ts k q ps r r' h =>
    refine bindTs_sub h fun t ht z q hz => ?_
    have := List.all_eq_true.mp u t ht
    rw [hz] at this; exact this

theorem bindTs_stor {ts : List Expr} {ps : List PV} {r r' : Internal.Loc} (h : bindTs sc ts ps r = some r') : ∀ t ∈ ts, ∃ x q, t = .Name x q /\ storable sc x = true := by
  have H := bts h; clear h
  induction H with
  | nil => exact fun t ht => nomatch ht
  | cons x q ts p ps r r' hx h ih => exact List.forall_mem_cons.mpr ⟨⟨x, q, rfl, hx⟩, ih⟩

theorem under_one {x : Str} (hx : storable cs x = true) : ((under cs r) x).isNone = true := by
  unfold under
  unfold storable at hx
  cases k : kd cs x with
  | none => rw [k] at hx; exact bs hx
  | some k' => rw [k] at hx; refine' k' <;> first | rfl | exact bs hx
theorem under_unbound {t : Expr} {p : PV} (h : bindT cs t p (under cs r) = some r') : unbound (under cs r) t = true := by
  generalize hu : under cs r = ru at h
  have one : ∀ x, storable cs x = true -> (ru x).isNone = true := fun x hx => hu ▸ under_one hx
  have H := bt h; clear h hu
  induction H with
  | name x q p r hx => exact one _ hx
  | tup ts k q ps r r' h =>
    refine List.all_eq_true.mpr fun t ht => ?_
    refine cps fun U J => ?_
    obtain ⟨x, q, rfl, hx⟩ := bindTs_stor h t ht
    refine J ?_; clear J U
    exact one x hx

theorem turns_len {f : PV -> Option (List PV)} : ∀ {ps : List PV} {out : List PV}, turns f ps = some out -> ∀ p, ps = p :: ps.tail -> ∃ a b, f p = some a /\ turns f ps.tail = some b /\ out = a ++ b
  | [], _, _, p, e => by refine' e
  | q :: ps, out, h, p, e => by
    refine' e
    rw [turns] at h
    refine cps fun U J => ?_
    obtain ⟨a, ha, h⟩ := Option.bind_eq_some_iff.mp h
    obtain ⟨b, hb, h⟩ := Option.bind_eq_some_iff.mp h
    refine J ?_; clear J U
    refine' h
    exact ⟨a, b, ha, hb, rfl⟩

theorem notSet {e : Expr} {env : Env} (h : ∀ es k q, e ≠ .Set es k q) (x : Value) : foldedSetIterable e env x = pure x := by
  cases e with
  | Set es k q => exact absurd rfl (h es k q)
  | _ => rfl

theorem loop_weight (elt : Expr) (gens : List Comprehension) (sp : Scope) (pos : Pos) (d : Nat) (it acc : Value) (cenv : Env) : (Code.compLoop (.ListComp elt gens sp pos) d it acc cenv).weight = 0 := by rfl
theorem start_weight (elt : Expr) (gens : List Comprehension) (sp : Scope) (pos : Pos) (d : Nat) (it acc : Value) (cenv : Env) : (Code.compStart (.ListComp elt gens sp pos) d it acc cenv).weight = 0 := by rfl

theorem codeAny_start {elt : Expr} {gens : List Comprehension} {sp : Scope} {pos : Pos} {d : Nat} {I : Addr} {acc : Value} {cenv : Env} {g : Comprehension} {R : Result -> Shared -> Prop} (hg : gens[d]? = some g) (ha : g.is_async = 0)
    (self : ∀ (Q : Value -> Shared -> Prop) (E : Value -> Shared -> Prop), Q (.ref I) s -> wpAny (model prog w) A (pyIter (.ref I)) Q E s)
    (h : codeAny (model prog w) A (.compLoop (.ListComp elt gens sp pos) d (.ref I) acc cenv) R s) :
    codeAny (model prog w) A (.compStart (.ListComp elt gens sp pos) d (.ref I) acc cenv) R s := by
  refine codeAny_of_tree ?_
  rw [Around.under_of_weight (start_weight ..)]
  show wpAny _ _ ((compStart (.ListComp elt gens sp pos) d (.ref I) acc cenv).onRaise (fun x => do noteFrame x cenv; standAt theWindowsPlace)) _ _ s
  refine wpAny_onRaise (wpAny_mono (E' := _) (Q := fun fin s' => fin = .again (.compLoop (.ListComp elt gens sp pos) d (.ref I) acc cenv) /\ s' = s) (E := NoE) ?_ (fun fin s' q => ?_) fun y_ y_ e => e.elim)
  . unfold compStart
    have hcl : clausesOf (.ListComp elt gens sp pos) = gens := rfl
    simp -iota only [hcl, hg, Option.elim_some, ha, bne_self_eq_false, Bool.false_eq_true, if_false]
    refine wpAny_bind (wpAny_askSetting (wpAny_ite ?_))
    split
    . exact wpAny_bind (wpAny_pure (wpAny_pure ⟨rfl, rfl⟩))
    . refine wpAny_bind (wpAny_rule (wpAny_bind (wpAny_standAt (wpAny_bind (self _ _ ?_)))))
      exact wpAny_pure ⟨rfl, rfl⟩
  . refine cps fun U J => ?_
    obtain ⟨rfl, rfl⟩ := q
    refine J ?_; clear J U
    exact ⟨rfl, h⟩
end
end

section
open PySem PyProof.Rows

section
variable {prog : Program} {w : World} {A : Around} {s : Shared} {hB hE : Heap} {B : Av} {sc cs : Scope} {env : Env} {W : Own} {r r' : Internal.Loc} {o : Orc} {k : Nat}

theorem compTurn_one (elt : Expr) (gens : List Comprehension) (sp : Scope) (pos : Pos) (d : Nat) (it acc : Value) (cenv : Env) (t iter : Expr) (ifs : List Expr) (hg : gens[d]? = some ⟨t, iter, ifs, 0⟩) (hn : gens[d + 1]? = Option.none) :
    compTurn (.ListComp elt gens sp pos) d it acc cenv = (do
      standAt iter.pos
      match <- pyNext it with
      | none => pure (.done .next)
      | some v =>
        letOwnedTupleGo t it v
        assign t cenv v
        let mut ok := true
        for c in ifs do
          if ok then ok <- isTrue c cenv (eval c cenv)
        if ok then
          (do let _ <- call (.builtin "list.append") [acc, <- eval elt cenv])
        again (.compLoop (.ListComp elt gens sp pos) d it acc cenv)) := by
  unfold compTurn
  dsimp only
  rw [hg]
  dsimp only
  rw [hn]
  rfl

theorem compTurn_more (elt : Expr) (gens : List Comprehension) (sp : Scope) (pos : Pos) (d : Nat) (it acc : Value) (cenv : Env) (t iter : Expr) (ifs : List Expr) (hg : gens[d]? = some ⟨t, iter, ifs, 0⟩) (t' iter' : Expr) (ifs' : List Expr) (hn : gens[d + 1]? = some ⟨t', iter', ifs', 0⟩) :
    compTurn (.ListComp elt gens sp pos) d it acc cenv = (do
      standAt iter.pos
      match <- pyNext it with
      | none => pure (.done .next)
      | some v =>
        letOwnedTupleGo t it v
        assign t cenv v
        let mut ok := true
        for c in ifs do
          if ok then ok <- isTrue c cenv (eval c cenv)
        if ok then
          let x <- eval iter' cenv
          standAt iter'.pos
          let x <- foldedSetIterable iter' cenv x
          let _ <- runOwn (.compStart (.ListComp elt gens sp pos) (d + 1) (<- holding [x] (pyIter x)) acc cenv) cenv
        again (.compLoop (.ListComp elt gens sp pos) d it acc cenv)) := by
  unfold compTurn
  dsimp only
  rw [hg]
  dsimp only
  rw [hn]
  rfl

noncomputable def turnF (o : Orc) (cs : Scope) (elt : Expr) (t : Expr) (ifs : List Expr) (gs : List Comprehension) (r : Internal.Loc) (p : PV) : Option (List PV) := do
  let r' <- bindT cs t p r
  if <- evIfs o cs ifs r' then evGens o cs (ev o cs elt) gs r' else some []

structure Run (prog : Program) (w : World) (hB h1 : Heap) (B : Av) (cs : Scope) (cenv : Env) (W : Own) (r : Internal.Loc) (xs : List Str) (D : Addr) (ps : List PV) (qs : List PV) (I : Addr) (fp wr : List Addr) (P : Nat -> Value -> Prop) (Sx : Nat -> Heap -> Prop) (i : Nat) (s : Shared) : Prop where
  bare : AllBare s.gens
  st : St hB B cs cenv W r s.heap
  entry : ∀ b o, h1.get? b = some o -> s.heap.get? b = some o
  bD : B D
  bWr : ∀ b ∈ wr, B b
  walks : ∀ A' : Around, A'.handled = none -> Walks prog w A' I fp wr ps.length P Sx
  at_ : Sx i s.heap
  val : ∀ i x, i < ps.length -> P i x -> ∃ q, ps[i]? = some q /\ Rd s.heap (VE B cenv W []) q x
  go : ∀ (target : Expr) (A : Around) (E : Value -> Shared -> Prop) (Q : Unit -> Shared -> Prop) (s' : Shared) (i j : Nat) (x : Value), Sx i s'.heap -> P j x -> Q () s' -> wpAny (model prog w) A (letOwnedTupleGo target (.ref I) x) Q E s'
  fpOk : ∀ b ∈ fp, ¬ Put cs cenv b /\ b ≠ D
  wrOk : ∀ b ∈ wr, b ≠ cenv.locals /\ ∀ x, cenv.cells.lookup x ≠ some b
  alive : ∀ i h, Sx i h -> ∀ b ∈ wr, ∃ o, h.get? b = some o
  wrNew : ∀ b ∈ wr, h1.get? b = none
  acc : ∃ vs, s.heap.PlainList D vs /\ RdL s.heap (VE B cenv W xs) qs vs.toList

theorem RdL.keptX {h h' : Heap} {xs : List Str} {X : Av} {p : List PV} {v : List Value} (x : RdL h (VE B env W xs) p v) (hX : ∀ b, X b -> VE B env W xs b) (kp : ∀ b o, ¬ X b -> h.get? b = some o -> h'.get? b = some o) : RdL h' (VE B env W xs) p v :=
  x.gr fun b o n e => kp b o (fun q => n (hX b q)) e
theorem Rd.keptX {h h' : Heap} {xs : List Str} {X : Av} {p : PV} {v : Value} (x : Rd h (VE B env W xs) p v) (hX : ∀ b, X b -> VE B env W xs b) (kp : ∀ b o, ¬ X b -> h.get? b = some o -> h'.get? b = some o) : Rd h' (VE B env W xs) p v :=
  x.gr fun b o n e => kp b o (fun q => n (hX b q)) e

theorem put_ve {xs : List Str} {b : Addr} (h : Put cs env b) : VE B env W xs b := by
  rcases h with rfl | ⟨x, _, e⟩
  . exact .inr (.inl rfl)
  . exact .inr (.inr (.inl ⟨x, e⟩))

theorem Run.D_wr {h1 : Heap} {cenv : Env} {xs : List Str} {D : Addr} {ps qs : List PV} {I : Addr} {fp wr : List Addr} {P : Nat -> Value -> Prop} {Sx : Nat -> Heap -> Prop} {i : Nat} (R : A.handled = none)
    (X : Run prog w hB h1 B cs cenv W r xs D ps qs I fp wr P Sx i s) : D ∉ wr := fun h => (X.fpOk D ((X.walks A R).sub D h)).2 rfl

theorem turn_front {elt : Expr} {cenv : Env} {h1 : Heap} {D : Addr} {t : Expr} {ifs : List Expr} {gs : List Comprehension} {ps qs a : List PV} {I : Addr} {fp wr : List Addr} {P : Nat -> Value -> Prop} {Sx : Nat -> Heap -> Prop} {i : Nat} {xs : List Str}
    {E : Value -> Shared -> Prop} {Q : Bool -> Shared -> Prop} {v : Value} {h' : Heap} {tk : Nat}
    (HI : ∀ c ∈ ifs, TrOk prog w hB k o c) (T : StorL h1 cs cenv) (hDP : D ≠ cenv.locals /\ ∀ x, cenv.cells.lookup x ≠ some D) (R : Room k A) (U : unbound r t = true) (hi : i < ps.length)
    (X : Run prog w hB h1 B cs cenv W r xs D ps qs I fp wr P Sx i s) (ha : turnF o cs elt t ifs gs r (ps[i]) = some a)
    (hPv : P i v) (hst : Sx (i + 1) h') (hk : ∀ b o, b ∉ wr -> s.heap.get? b = some o -> h'.get? b = some o)
    (h : ∀ ok s' r', St hB B cs cenv W r' s'.heap -> (if ok = true then evGens o cs (ev o cs elt) gs r' = some a else a = []) -> Run prog w hB h1 B cs cenv W r xs D ps qs I fp wr P Sx (i + 1) s' ->
      (∀ b o, ¬ Put cs cenv b -> b ≠ D -> b ∉ wr -> s.heap.get? b = some o -> s'.heap.get? b = some o) -> s'.os = s.os -> (AllBare s.gens -> AllBare s'.gens) -> (∀ x sl, r x = some sl -> r' x = some sl) -> Q ok s') :
    wpAny (model prog w) A (assign t cenv v) (fun y_ s₂ => wpAny (model prog w) A (forIn ifs true fun c r => if r = true then do let ok <- isTrue c cenv (eval c cenv); pure (ForInStep.yield ok) else pure (ForInStep.yield r)) Q E s₂) E { s with heap := h', toks := tk } := by
  have hDw := X.D_wr R.handled
  have nDP : ¬ Put cs cenv D := by
    rintro (e | ⟨x, _, e⟩)
    . exact hDP.1 e
    . exact hDP.2 x e
  unfold turnF at ha
  refine cps fun U J => ?_
  obtain ⟨r', hr', ha⟩ := Option.bind_eq_some_iff.mp ha
  obtain ⟨b, hb, ha⟩ := Option.bind_eq_some_iff.mp ha
  have S1 : St hB B cs cenv W r h' := X.st.chg (X := fun b => b ∈ wr) (fun y_ v => v) (fun b o n e => hk b o n e) (fun b hb => ⟨X.bWr b hb, X.wrOk b hb⟩) (fun b y_ hb => X.alive _ _ hst b hb)
  have wrVE : ∀ ys : List Str, ∀ b, b ∈ wr -> VE B cenv W ys b := fun ys b hb => .inl (X.bWr b hb)
  obtain ⟨q, hq, hv⟩ := X.val i v hi hPv
  refine J ?_; clear J U
  have hq' : ps[i] = q := by simpa [hi] using hq
  rw [hq'] at hr'
  have en1 : ∀ b o, h1.get? b = some o -> h'.get? b = some o := fun b o e => hk b o (fun hb => by rw [X.wrNew b hb] at e; refine' e) (X.entry b o e)
  refine wpAny_mono (bindT_ok (s := { s with heap := h', toks := tk }) R.handled T hr' S1 (hv.keptX (wrVE []) hk) en1) (fun y_ s₂ b2 => ?_) fun y_ y_ e => e.elim
  refine wpAny_mono (ifs_ok HI R (b2.gens X.bare) b2.st hb) (fun ok s₃ q3 => ?_) fun y_ y_ e => e.elim
  obtain ⟨rfl, e3⟩ := q3
  have kp : ∀ b o, ¬ Put cs cenv b -> b ∉ wr -> s.heap.get? b = some o -> s₃.heap.get? b = some o := fun b o n1 n2 e => e3.heap b o (b2.kept b o n1 (hk b o n2 e))
  have sub := bindT_sub hr' U
  have wrXE : ∀ ys : List Str, ∀ b, (Put cs cenv b \/ b ∈ wr) -> VE B cenv W ys b := fun ys b hb => hb.elim put_ve (wrVE ys b)
  refine h ok s₃ r' (b2.st.ext e3.heap) ?_ ⟨e3.gens (b2.gens X.bare), (b2.st.ext e3.heap).sub sub, fun b o e => e3.heap b o (b2.entry b o e), X.bD, X.bWr, X.walks, ?_, ?_, X.go, X.fpOk, X.wrOk, X.alive, X.wrNew, ?_⟩ (fun b o n1 y_ n3 e => kp b o n1 n3 e) (e3.os.trans b2.os) (fun g => e3.gens (b2.gens g)) sub
  . cases ok with
    | true => simpa using ha
    | false => simp at ha; simpa using ha.symm
  . exact (X.walks A R.handled).frame _ _ _ hst fun b hb o e => e3.heap b o (b2.kept b o (X.fpOk b hb).1 e)
  . intro i' x hi' hx
    obtain ⟨q', e1, e2⟩ := X.val i' x hi' hx
    exact ⟨q', e1, e2.keptX (wrXE []) fun b o n e => kp b o (fun p => n (.inl p)) (fun p => n (.inr p)) e⟩
  . obtain ⟨vs, pl, rd⟩ := X.acc
    exact ⟨vs, pl.at fun o e => kp D o nDP hDw e, rd.keptX (wrXE xs) fun b o n e => kp b o (fun p => n (.inl p)) (fun p => n (.inr p)) e⟩

theorem loop_end {cenv : Env} {h1 : Heap} {D : Addr} {ps qs : List PV} {I : Addr} {fp wr : List Addr} {P : Nat -> Value -> Prop} {Sx : Nat -> Heap -> Prop} {xs : List Str} {E : Value -> Shared -> Prop} {Q : Option Value -> Shared -> Prop}
    (hDP : D ≠ cenv.locals /\ ∀ x, cenv.cells.lookup x ≠ some D) (R : Room k A) (X : Run prog w hB h1 B cs cenv W r xs D ps qs I fp wr P Sx ps.length s)
    (h : ∀ s', CPost hB h1 B cs cenv W r xs D wr qs s s' -> Q none s') : wpAny (model prog w) A (pyNext (.ref I)) Q E s := by
  have hDw := X.D_wr R.handled
  refine (X.walks A R.handled).done s _ _ X.at_ fun h' tk hk => h _ ⟨X.st.chg (X := fun b => b ∈ wr) (fun y_ v => v.1) (fun b o n e => hk b o n e) (fun b hb => ⟨X.bWr b hb, X.wrOk b hb⟩) (fun b v hb => absurd hb v.2),
    fun b o e => hk b o (fun hb => by rw [X.wrNew b hb] at e; refine' e) (X.entry b o e), ?_, fun b o y_ y_ n e => hk b o n e, rfl, fun g => g⟩
  obtain ⟨vs, pl, rd⟩ := X.acc
  exact ⟨vs, pl.at fun o e => hk D o hDw e, rd.keptX (X := fun b => b ∈ wr) (fun b hb => .inl (X.bWr b hb)) hk⟩

theorem Run.post {s' : Shared} {cenv : Env} {h1 : Heap} {D : Addr} {ps qs : List PV} {I : Addr} {fp wr : List Addr} {P : Nat -> Value -> Prop} {Sx : Nat -> Heap -> Prop} {i : Nat} {xs : List Str} (X : Run prog w hB h1 B cs cenv W r xs D ps qs I fp wr P Sx i s')
    (kp : ∀ b o, ¬ Put cs cenv b -> b ≠ D -> b ∉ wr -> s.heap.get? b = some o -> s'.heap.get? b = some o) (os : s'.os = s.os) : CPost hB h1 B cs cenv W r xs D wr qs s s' :=
  ⟨X.st.lessB fun b v => v.1, X.entry, X.acc, kp, os, fun _ => X.bare⟩
theorem Run.next {s' : Shared} {cenv : Env} {h1 : Heap} {D : Addr} {ps qs qs' : List PV} {I : Addr} {fp wr : List Addr} {P : Nat -> Value -> Prop} {Sx : Nat -> Heap -> Prop} {i : Nat} {xs : List Str} (X : Run prog w hB h1 B cs cenv W r xs D ps qs I fp wr P Sx i s)
    (R : A.handled = none) (bare : AllBare s'.gens) (S : St hB B cs cenv W r s'.heap) (kk : ∀ b o, ¬ Put cs cenv b -> b ≠ D -> s.heap.get? b = some o -> s'.heap.get? b = some o) (en : ∀ b o, h1.get? b = some o -> s'.heap.get? b = some o)
    (acc : ∃ vs, s'.heap.PlainList D vs /\ RdL s'.heap (VE B cenv W xs) qs' vs.toList) : Run prog w hB h1 B cs cenv W r xs D ps qs' I fp wr P Sx i s' := by
  refine ⟨bare, S, en, X.bD, X.bWr, X.walks, (X.walks A R).frame _ _ _ X.at_ fun b hb o e => kk b o (X.fpOk b hb).1 (X.fpOk b hb).2 e, fun i' x hi' hx => ?_, X.go, X.fpOk, X.wrOk, X.alive, X.wrNew, acc⟩
  obtain ⟨q', e1, e2⟩ := X.val i' x hi' hx
  exact ⟨q', e1, e2.keptX (X := fun b => Put cs cenv b \/ b = D) (fun b hb => hb.elim put_ve fun e => e ▸ .inl X.bD) fun b o n e => kk b o (fun p => n (.inl p)) (fun p => n (.inr p)) e⟩

set_option maxHeartbeats 1000000 in
theorem loop_gen {elt : Expr} {gens : List Comprehension} {sp : Scope} {pos : Pos} {cenv : Env} {h1 : Heap} {D : Addr} {d : Nat} {t iter : Expr} {ifs : List Expr} {gs : List Comprehension} {M : Value -> Sem Fin}
    (HI : ∀ c ∈ ifs, TrOk prog w hB k o c) (T : StorL h1 cs cenv) (hDP : D ≠ cenv.locals /\ ∀ x, cenv.cells.lookup x ≠ some D)
    (HT : ∀ it, compTurn (.ListComp elt gens sp pos) d it (.ref D) cenv = (do
      standAt iter.pos
      match <- pyNext it with
      | none => pure (.done .next)
      | some v =>
        letOwnedTupleGo t it v
        assign t cenv v
        let mut ok := true
        for c in ifs do
          if ok then ok <- isTrue c cenv (eval c cenv)
        if ok then M it else again (.compLoop (.ListComp elt gens sp pos) d it (.ref D) cenv)))
    (HM : ∀ (A : Around) (B : Av) (r r' : Internal.Loc) (ps qs a : List PV) (I : Addr) (fp wr : List Addr) (P : Nat -> Value -> Prop) (Sx : Nat -> Heap -> Prop) (i : Nat) (s : Shared), Room k A -> Run prog w hB h1 B cs cenv W r (esc elt) D ps qs I fp wr P Sx i s ->
      St hB B cs cenv W r' s.heap -> (∀ x sl, r x = some sl -> r' x = some sl) -> evGens o cs (ev o cs elt) gs r' = some a -> qs.length + a.length <= wide ->
      wpAny (model prog w) A (M (.ref I)) (fun fin s' => fin = .again (.compLoop (.ListComp elt gens sp pos) d (.ref I) (.ref D) cenv) /\ Run prog w hB h1 B cs cenv W r (esc elt) D ps (qs ++ a) I fp wr P Sx i s' /\
        (∀ b o, ¬ Put cs cenv b -> b ≠ D -> s.heap.get? b = some o -> s'.heap.get? b = some o) /\ s'.os = s.os) NoE s) :
    ∀ (j : Nat) (A : Around) (B : Av) (r : Internal.Loc) (ps qs out : List PV) (I : Addr) (fp wr : List Addr) (P : Nat -> Value -> Prop) (Sx : Nat -> Heap -> Prop) (i : Nat) (s : Shared),
      i + j = ps.length -> Room k A -> (ps ≠ [] -> unbound r t = true) -> Run prog w hB h1 B cs cenv W r (esc elt) D ps qs I fp wr P Sx i s ->
      turns (turnF o cs elt t ifs gs r) (ps.drop i) = some out -> qs.length + out.length <= wide ->
      codeAny (model prog w) A (.compLoop (.ListComp elt gens sp pos) d (.ref I) (.ref D) cenv) (fun res s' => res = .ok .next /\ CPost hB h1 B cs cenv W r (esc elt) D wr (qs ++ out) s s') s := by
  intro j
  induction j with
  | zero =>
    intro A B r ps qs out I fp wr P Sx i s hij R U X ht hlen
    cases (show i = ps.length from hij)
    simp only [List.drop_length, turns, Option.some.injEq] at ht
    cases ht.symm
    refine codeAny_of_tree ?_
    rw [Around.under_of_weight (loop_weight ..)]
    show wpAny _ _ ((compTurn (.ListComp elt gens sp pos) d (.ref I) (.ref D) cenv).onRaise (fun x => do noteFrame x cenv; theTreesLotGoes x)) _ _ s
    refine wpAny_onRaise ?_
    refine wpq (HT _) ?_
    refine wpAny_bind (wpAny_standAt (wpAny_bind (loop_end hDP R X fun s' C => ?_)))
    refine wpAny_pure ⟨rfl, ?_⟩
    rw [List.append_nil]; exact C
  | succ j ih =>
    intro A B r ps qs out I fp wr P Sx i s hij R U X ht hlen
    have hi : i < ps.length := by rw [<- hij]; exact Nat.lt_add_of_pos_right (Nat.succ_pos j)
    have hd : ps.drop i = ps[i] :: ps.drop (i + 1) := by simp
    rw [hd] at ht
    refine cps fun U J => ?_
    obtain ⟨a, b, ha, hb, rfl⟩ := turns_len ht _ rfl
    refine J ?_; clear J U
    refine codeAny_of_tree ?_
    rw [Around.under_of_weight (loop_weight ..)]
    show wpAny _ _ ((compTurn (.ListComp elt gens sp pos) d (.ref I) (.ref D) cenv).onRaise (fun x => do noteFrame x cenv; theTreesLotGoes x)) _ _ s
    refine wpAny_onRaise (wpAny_mono (E := NoE) (Q := fun fin s' => fin = .again (.compLoop (.ListComp elt gens sp pos) d (.ref I) (.ref D) cenv) /\
      Run prog w hB h1 B cs cenv W r (esc elt) D ps (qs ++ a) I fp wr P Sx (i + 1) s' /\ CPost hB h1 B cs cenv W r (esc elt) D wr (qs ++ a) s s') ?_ (fun fin s' q => ?_) fun y_ y_ e => e.elim)
    . refine wpq (HT _) ?_
      refine wpAny_bind (wpAny_standAt (wpAny_bind ((X.walks A R.handled).item i s _ _ hi X.at_ fun v h' tk hPv hst hk => ?_)))
      dsimp only
      refine wpAny_bind (X.go t A _ _ _ (i + 1) i v hst hPv ?_)
      refine wpAny_bind (wpAny_mono (turn_front (tk := tk) HI T hDP R (U (by intro e; cases e.symm; simp at hi)) hi X ha hPv hst hk (Q := fun ok s₃ => wpAny (model prog w) A _ _ NoE s₃) fun ok s₃ r' S3 hok X3 kp os gn sub => ?_) (fun y_ s₂ h₂ => wpAny_bind h₂) fun y_ y_ e => e)
      cases ok with
      | false =>
        simp only [Bool.false_eq_true, if_false] at hok ⊢
        cases hok.symm
        rw [List.append_nil]
        exact wpAny_pure ⟨rfl, X3, X3.post kp os⟩
      | true =>
        simp only [if_true] at hok ⊢
        exact wpAny_mono (HM A B r r' ps qs a I fp wr P Sx (i + 1) s₃ R X3 S3 sub hok (Nat.le_trans (Nat.add_le_add_left (by rw [List.length_append]; exact Nat.le_add_right _ _) _) hlen))
          (fun fin s₄ q => ⟨q.1, q.2.1, q.2.1.post (fun b o n1 n2 n3 e => q.2.2.1 b o n1 n2 (kp b o n1 n2 n3 e)) (q.2.2.2.trans os)⟩) fun y_ y_ e => e
    . have X' := q.2.1
      have C := q.2.2
      cases q.1.symm
      refine ⟨rfl, codeAny_mono (ih A B r ps (qs ++ a) b I fp wr P Sx (i + 1) _ (by rw [Nat.add_right_comm]; exact hij) R U X' hb (by rw [List.length_append, Nat.add_assoc, <- List.length_append]; exact hlen)) fun res s'' q => ⟨q.1, ?_⟩⟩
      have C' := q.2
      exact ⟨C'.st, C'.entry, by rw [<- List.append_assoc]; exact C'.acc, fun x o n1 n2 n3 e => C'.kept x o n1 n2 n3 (C.kept x o n1 n2 n3 e), C'.os.trans C.os, fun g => C'.gens (C.gens g)⟩

set_option maxHeartbeats 1000000 in
theorem comp_loop {elt : Expr} {gens : List Comprehension} {sp : Scope} {pos : Pos} {cenv : Env} {h1 : Heap} {D : Addr} (HE : EvOk prog w hB k o elt)
    (HA : ∀ g ∈ gens, g.is_async = 0) (HG : ∀ g ∈ gens, EvOk prog w hB k o g.iter /\ ∀ c ∈ g.ifs, TrOk prog w hB k o c) (T : StorL h1 cs cenv) (hD : h1.get? D = none) (hDP : D ≠ cenv.locals /\ ∀ x, cenv.cells.lookup x ≠ some D) :
    ∀ (gs : List Comprehension) (d : Nat) (t iter : Expr) (ifs : List Expr), gens.drop d = ⟨t, iter, ifs, 0⟩ :: gs -> ∀ (j : Nat) (A : Around) (B : Av) (r : Internal.Loc) (ps qs out : List PV) (I : Addr) (fp wr : List Addr) (P : Nat -> Value -> Prop) (Sx : Nat -> Heap -> Prop) (i : Nat) (s : Shared),
      i + j = ps.length -> Room k A -> (ps ≠ [] -> unbound r t = true) -> Run prog w hB h1 B cs cenv W r (esc elt) D ps qs I fp wr P Sx i s ->
      turns (turnF o cs elt t ifs gs r) (ps.drop i) = some out -> qs.length + out.length <= wide ->
      codeAny (model prog w) A (.compLoop (.ListComp elt gens sp pos) d (.ref I) (.ref D) cenv) (fun res s' => res = .ok .next /\ CPost hB h1 B cs cenv W r (esc elt) D wr (qs ++ out) s s') s := by
  intro gs
  induction gs with
  | nil =>
    intro d t iter ifs hdrop
    have hg : gens[d]? = some ⟨t, iter, ifs, 0⟩ := by
      have := congrArg (·[0]?) hdrop
      simpa using this
    have hn : gens[d + 1]? = Option.none := by
      have := congrArg (·[1]?) hdrop
      simpa using this
    refine loop_gen (HG _ (List.mem_of_getElem? hg)).2 T hDP (fun it => compTurn_one elt gens sp pos d it (.ref D) cenv t iter ifs hg hn) ?_
    clear HA HG hg hn hdrop
    intro A B r r' ps qs a I fp wr P Sx i s R X S sub hok hl
    simp only [v_g0, v_g1] at hok
    refine cps fun U J => ?_
    obtain ⟨p, hp, rfl⟩ := Option.map_eq_some_iff.mp hok
    obtain ⟨vs, pl, rd⟩ := X.acc
    refine J ?_; clear J U
    refine wpAny_bind (wpAny_bind (wpAny_mono (HE cs cenv B W r' s p A R X.bare S hp) (fun y s₄ q4 => ?_) fun y_ y_ e => e))
    obtain ⟨e4, rd4, _⟩ := q4
    have pl4 : s₄.heap.PlainList D vs := pl.at fun o e => e4.heap D o e
    have hlen' : vs.size = qs.length := by simpa using rd.length
    refine wpAny_bind (wpAny_list_append_plain pl4 (fun h5 pl5 sb5 => ?_) (by rw [hlen']; exact lt_wide (Nat.le_trans (Nat.le_add_right _ _) hl)))
    have kD : ∀ b o, ¬ (b = D) -> s₄.heap.get? b = some o -> h5.get? b = some o := fun b o n e => sb5.extBut b o n e
    have S5 : St hB B cs cenv W r h5 := (X.st.ext e4.heap).chg (X := fun b => b = D) (fun y_ v => v) kD (fun b hb => by cases hb.symm; exact ⟨X.bD, hDP⟩) (fun b y_ hb => by cases hb.symm; obtain ⟨n, e⟩ := pl5; exact ⟨_, e⟩)
    have kk : ∀ b o, ¬ (b = D) -> s.heap.get? b = some o -> h5.get? b = some o := fun b o n e => kD b o n (e4.heap b o e)
    have dVE : ∀ ys b, b = D -> VE B cenv W ys b := fun ys b hb => hb ▸ .inl X.bD
    refine wpAny_pure (wpAny_pure ⟨rfl, X.next R.handled (e4.gens X.bare) S5 (fun b o y_ n e => kk b o n e) (fun b o e => kk b o (fun q => by cases q.symm; rw [hD] at e; cases e) (X.entry b o e)) ⟨_, pl5, ?_⟩, fun b o y_ n e => kk b o n e, e4.os⟩)
    rw [Array.toList_push]
    exact (rd.keptX (dVE _) kk).append (RdL.cons (rd4.keptX (dVE _) kD) RdL.nil)
  | cons g' gs ihg =>
    intro d t iter ifs hdrop
    have hg : gens[d]? = some ⟨t, iter, ifs, 0⟩ := by
      have := congrArg (·[0]?) hdrop
      simpa using this
    refine cps fun U J => ?_
    obtain ⟨t', iter', ifs', a'⟩ := g'
    refine J ?_; clear J U
    have hn : gens[d + 1]? = some ⟨t', iter', ifs', a'⟩ := by
      have := congrArg (·[1]?) hdrop
      simpa using this
    have hmem' : (⟨t', iter', ifs', a'⟩ : Comprehension) ∈ gens := List.mem_of_getElem? hn
    have ha0 : a' = 0 := HA _ hmem'
    cases ha0.symm
    have hdrop' : gens.drop (d + 1) = ⟨t', iter', ifs', 0⟩ :: gs := by
      rw [<- List.drop_drop, hdrop]; rfl
    refine loop_gen (HG _ (List.mem_of_getElem? hg)).2 T hDP (fun it => compTurn_more elt gens sp pos d it (.ref D) cenv t iter ifs hg t' iter' ifs' hn) ?_
    replace HG := (HG _ hmem').1
    clear HA hg hdrop
    intro A B r r' ps qs a I fp wr P Sx i s R X S sub hok hl
    simp only [v_g0, v_g1] at hok
    refine cps fun U J => ?_
    obtain ⟨x, hx, hok⟩ := Option.bind_eq_some_iff.mp hok
    obtain ⟨ps', hps', hok⟩ := Option.bind_eq_some_iff.mp hok
    refine J ?_; clear J U
    split at hok
    . rename_i hc
      have hns : ∀ es k q, iter' ≠ .Set es k q := by rintro es k q rfl; simp [v_c, v_n, v_bool, v_bin, v_not, v_neg, v_if, v_list, v_tup, v_cmp1, v_cmp2, v_call, v_meth, v_slc, v_sub, v_comp, v_star, v_set, v_setc, v_dictc, v_kw, v_comp0] at hx
      refine wpAny_bind (wpAny_mono (HG cs cenv B W r' s x A R X.bare S hx) (fun y s₄ q4 => ?_) fun y_ y_ e => e)
      obtain ⟨e4, rd4, rs4⟩ := q4
      have S4 := S.ext e4.heap
      have hz : esc.esc' iter' = [] := by simpa [noEsc] using hc.2.2
      have rs5 : RdS s₄.heap (VE B cenv W []) x y := by rw [hz] at rs4; exact rs4
      refine wpAny_bind (wpAny_standAt (wpAny_bind (wpAny_of_eq (notSet hns y) ?_)))
      refine wpAny_bind (wpAny_holding (wpAny_mono (iter_ok (V := VE B cenv W []) S4.laid hps' rs5) (fun it s₅ q5 => ?_) fun y_ y_ e => e))
      refine cps fun U J => ?_
      obtain ⟨I', fp', wr', P', Sx', rfl, it5, e5, fpv⟩ := q5
      refine J ?_; clear J U
      have fresh4 : ∀ b ∈ wr', s₄.heap.get? b = none := fun b hb => (it5.wrNew b hb).1
      have B4 : ∀ b, VE B cenv W [] b -> b ∉ wr' := fun b v hb => by
        obtain ⟨o, ho⟩ := S4.laid b v; rw [fresh4 b hb] at ho; cases ho
      have B4' : ∀ b, B b -> b ∉ wr' := fun b v => B4 b (.inl v)
      have old4 : ∀ b o, s₄.heap.get? b = some o -> b ∉ wr' := fun b o e hb => by rw [fresh4 b hb] at e; cases e
      have S5 : St hB (fun b => B b \/ b ∈ wr') cs cenv W r' s₅.heap := S4.more (X := fun b => b ∈ wr') e5.heap fun b hb => it5.wrNew b hb
      obtain ⟨vs, pl, rd⟩ := X.acc
      have g35 : ∀ b o, s.heap.get? b = some o -> s₅.heap.get? b = some o := fun b o e => e5.heap b o (e4.heap b o e)
      have veX : ∀ ys b, VE (fun b => B b \/ b ∈ wr') cenv W ys b -> VE B cenv W ys b \/ b ∈ wr' := by
        rintro ys b ((v | v) | v)
        . exact .inl (.inl v)
        . exact .inr v
        . exact .inl (.inr v)
      have X5 : Run prog w hB h1 (fun b => B b \/ b ∈ wr') cs cenv W r' (esc elt) D ps' qs I' fp' wr' P' Sx' 0 s₅ := by
        refine ⟨e5.gens (e4.gens X.bare), S5, fun b o e => g35 b o (X.entry b o e), .inl X.bD, fun b hb => .inr hb, it5.walks, it5.st, fun i' x' hi' hx' => ?_, it5.go, fun b hb => ?_, fun b hb => ?_, it5.alive, fun b hb => ?_, ⟨vs, pl.at fun o e => g35 D o e, ?_⟩⟩
        . obtain ⟨q', e1, e2⟩ := it5.val i' x' hi' hx'
          refine ⟨q', e1, e2.mono (Gr.of_ext e5.heap) fun b o e v => ?_⟩
          rcases veX [] b v with v | v
          . exact v
          . exact absurd v (old4 b o e)
        . rcases fpv _ rd4 b hb with hw | hw
          . refine ⟨fun hp => B4 b (put_ve hp) hw, fun e => ?_⟩
            cases e.symm; exact B4' _ X.bD hw
          . exact ⟨fun hp => hw (put_ve hp), fun e => hw (e ▸ .inl X.bD)⟩
        . exact ⟨fun e => B4 b (.inr (.inl e)) hb, fun x' e => B4 b (.inr (.inr (.inl ⟨x', e⟩))) hb⟩
        . cases q : h1.get? b with
          | none => rfl
          | some o => exact absurd hb (old4 b o (e4.heap b o (X.entry b o q)))
        . refine rd.mono (Gr.of_ext g35) fun b o e v => ?_
          rcases veX _ b v with v | v
          . exact v
          . exact absurd v (old4 b o (e4.heap b o e))
      refine wpAny_bind (wpAny_runOwn ?_)
      rw [show A.mark none = A from by cases A; rfl]
      refine codeAny_start hn rfl (fun Q' E' hq => (it5.walks A R.handled).self 0 s₅ Q' E' it5.st hq) ?_
      refine codeAny_mono (ihg (d + 1) t' iter' ifs' hdrop' ps'.length A _ r' ps' qs a I' fp' wr' P' Sx' 0 s₅ (Nat.zero_add _) R (fun y_ => hc.2.1) X5 (by rw [List.drop_zero]; exact hok) hl) fun res s₆ q6 => ?_
      obtain ⟨rfl, C6⟩ := q6
      have k46 : ∀ b o, ¬ Put cs cenv b -> b ≠ D -> s.heap.get? b = some o -> s₆.heap.get? b = some o := fun b o n1 n2 e => C6.kept b o n1 n2 (old4 b o (e4.heap b o e)) (g35 b o e)
      have S6 : St hB B cs cenv W r' s₆.heap := C6.st.lessB fun b v => ⟨.inl v, B4' b v⟩
      dsimp only
      refine wpAny_pure ⟨rfl, X.next R.handled (C6.gens (e5.gens (e4.gens X.bare))) (S6.sub sub) k46 C6.entry ?_, k46, C6.os.trans (e5.os.trans e4.os)⟩
      obtain ⟨vs, pl, rd⟩ := C6.acc
      refine ⟨vs, pl, rd.less fun b v => ?_⟩
      rcases v with v | v
      . exact .inl (.inl v)
      . exact .inr v
    . cases hok
end
end

section
open PySem PyProof.Rows

section
variable {prog : Program} {w : World} {A : Around} {s : Shared} {hB hE : Heap} {B : Av} {sc cs : Scope} {env : Env} {W : Own} {r r' : Internal.Loc} {o : Orc} {k : Nat}

theorem lstOf_some {t : Option (List PV)} {p : PV} (h : lstOf t = some p) : ∃ l, t = some l /\ l.length <= wide /\ p = .lst l := by
  cases t with
  | none => refine' h
  | some l =>
    by_cases hl : l.length <= wide
    . have : lstOf (some l) = some (.lst l) := by simp [lstOf, hl]
      rw [this] at h
      exact ⟨l, rfl, hl, (Option.some.inj h).symm⟩
    . have : lstOf (some l) = Option.none := by simp [lstOf, hl]
      rw [this] at h; refine' h

set_option maxHeartbeats 1000000 in
theorem comp_core {elt : Expr} {t it : Expr} {ifs : List Expr} {a : Int} {gs : List Comprehension} {pos ps0 : Pos} {p : PV} {use : Option (Value -> Sem Unit)} {Q : Value -> Shared -> Prop}
    (HE : EvOk prog w hB k o elt) (HG : ∀ g ∈ (⟨t, it, ifs, a⟩ :: gs : List Comprehension), EvOk prog w hB k o g.iter /\ ∀ c ∈ g.ifs, TrOk prog w hB k o c)
    (R : Room k A) (G : AllBare s.gens) (S : St hB B sc env W r s.heap) (h : ev o sc (.ListComp elt (⟨t, it, ifs, a⟩ :: gs) cs pos) r = some p)
    (hQ : ∀ s' D C l, p = .lst l -> Ext s s' -> Rd s'.heap (fun b => VE B env W (esc elt) b \/ b = C) p (.ref D) -> (∃ vs, s'.heap.PlainList D vs /\ RdL s'.heap (fun b => VE B env W (esc elt) b \/ b = C) l vs.toList) -> s.heap.get? C = Option.none -> s.heap.get? D = Option.none -> D ≠ C -> (∃ m, s'.heap.Ns C m) ->
      compPost (model prog w) A NoE use Q (.ref D) C (.ok .next) s') :
    wpAny (model prog w) A (comprehension (.ListComp elt (⟨t, it, ifs, a⟩ :: gs) cs pos) cs env ps0 (newList []) false (eval it env) use) Q NoE s := by
  simp only [v_c, v_n, v_bool, v_bin, v_not, v_neg, v_if, v_list, v_tup, v_cmp1, v_cmp2, v_call, v_meth, v_slc, v_sub, v_comp, v_star, v_set, v_setc, v_dictc, v_kw, v_comp0] at h
  refine cps fun U J => ?_
  obtain ⟨x, hx, h2⟩ := Option.bind_eq_some_iff.mp h
  obtain ⟨ps, hps, h3⟩ := Option.bind_eq_some_iff.mp h2
  refine J ?_; clear J U
  split at h3
  . rename_i hc
    unfold compOk at hc
    simp only [Bool.and_eq_true, decide_eq_true_eq] at hc
    refine cps fun U J => ?_
    obtain ⟨⟨⟨ha0, hok⟩, hall⟩, hno⟩ := hc
    subst ha0
    have O := okComp_of hok
    obtain ⟨out, hout, hlen, rfl⟩ := lstOf_some h3
    refine J ?_; clear J U
    have hz : esc.esc' it = [] := by simpa [noEsc] using hno
    have hns : ∀ es k q, it ≠ .Set es k q := by rintro es k q rfl; simp [v_c, v_n, v_bool, v_bin, v_not, v_neg, v_if, v_list, v_tup, v_cmp1, v_cmp2, v_call, v_meth, v_slc, v_sub, v_comp, v_star, v_set, v_setc, v_dictc, v_kw, v_comp0] at hx
    have HA : ∀ g ∈ (⟨t, it, ifs, 0⟩ :: gs : List Comprehension), g.is_async = 0 := by
      intro g hg
      rcases List.mem_cons.mp hg with rfl | hg
      . rfl
      . simpa using List.all_eq_true.mp hall g hg
    have hclo : closureFor cs env = pure (clFold env cs.names []) := (compAt_of (X := fun y_ => False) (D := 0) O S (fun y_ y_ e => e) (fun y_ q => q.elim)).1
    refine wpAny_comprehension_free (cl := clFold env cs.names []) (use := use) rfl (notSet hns) hclo O.kind (fun x hx hl => by have := O.mem x.1 x.2 hx; rw [hl] at this; exact this) ?_
    refine wpAny_mono ((HG _ List.mem_cons_self).1 sc env B W r s x A R G S hx) (fun y s₁ q1 => ?_) fun y_ y_ e => e
    obtain ⟨e1, rd1, rs1⟩ := q1
    have S1 := S.ext e1.heap
    have rs1' : RdS s₁.heap (VE B env W []) x y := by rw [hz] at rs1; exact rs1
    refine wpAny_mono (iter_ok (V := VE B env W []) S1.laid hps rs1') (fun itv s₂ q2 => ?_) fun y_ y_ e => e
    refine cps fun U J => ?_
    obtain ⟨I, fp, wr, P, Sx, rfl, it2, e2, fpv⟩ := q2
    refine J ?_; clear J U
    refine wpAny_newList ?_ (by decide)
    generalize hH3 : s₂.heap.push { cls := .type "list", data := .seq ([] : List Value).toArray } = H3
    have k23 : ∀ b o, s₂.heap.get? b = some o -> H3.get? b = some o := fun b o e => by rw [<- hH3]; exact Heap.get?_push_of_some _ e
    have k13 : ∀ b o, s₁.heap.get? b = some o -> H3.get? b = some o := fun b o e => k23 b o (e2.heap b o e)
    have hD3 : H3.PlainList s₂.heap.objs.size #[] := ⟨_, by rw [<- hH3]; exact Heap.get?_push_size _ rfl⟩
    have hD2 : s₂.heap.get? s₂.heap.objs.size = Option.none := size_free _
    generalize hD : s₂.heap.objs.size = D at hD3 hD2 ⊢
    have hD1 : s₁.heap.get? D = Option.none := by
      cases q : s₁.heap.get? D with
      | none => rfl
      | some o => rw [e2.heap D o q] at hD2; refine' hD2
    have hXn : ∀ b, (b ∈ wr \/ b = D) -> s₁.heap.get? b = Option.none /\ ∃ o, H3.get? b = some o := by
      rintro b (hb | rfl)
      . obtain ⟨n, o, e⟩ := it2.wrNew b hb; exact ⟨n, o, k23 b o e⟩
      . obtain ⟨n, e⟩ := hD3; exact ⟨hD1, _, e⟩
    obtain ⟨_, Y⟩ := compAt_of (X := fun b => b ∈ wr \/ b = D) (D := D) O S1 k13 hXn
    refine newEnv_ok (s := { s₂ with heap := H3 }) ?_
    refine cps fun U J => ?_
    obtain ⟨S4, T4, veC, cellC⟩ := compSt S1 O Y
    refine J ?_; clear J U
    dsimp only at S4 T4 veC cellC ⊢
    generalize hC : H3.objs.size = C at Y S4 T4 veC cellC ⊢
    generalize hH4 : pushCells (H3.push { cls := .type "dict", data := .dict #[] }) cs.names = H4 at Y S4 ⊢
    have k14 : ∀ b o, s₁.heap.get? b = some o -> H4.get? b = some o := fun b o e => Y.k34 b o (k13 b o e)
    have k24 : ∀ b o, s₂.heap.get? b = some o -> H4.get? b = some o := fun b o e => Y.k34 b o (k23 b o e)
    have none1 : ∀ b, H3.get? b = Option.none -> s₁.heap.get? b = Option.none := fun b e => by
      cases q : s₁.heap.get? b with
      | none => rfl
      | some o => rw [k13 b o q] at e; refine' e
    have locC : (cenvOf env cs C (clFold env cs.names [])).locals = C := rfl
    have notIn3 : ∀ b, (b ∈ wr \/ b = D) -> b ≠ C /\ ∀ x, (cenvOf env cs C (clFold env cs.names [])).cells.lookup x ≠ some b := by
      intro b hb
      obtain ⟨n1, o3, e3⟩ := hXn b hb
      refine ⟨fun e => (by cases e.symm; rw [Y.freshC] at e3; refine' e3), fun x e => ?_⟩
      rcases cellC x b e with ⟨o, q⟩ | q
      . rw [n1] at q; refine' q
      . rw [q] at e3; refine' e3
    have put4 : ∀ b, Put cs (cenvOf env cs C (clFold env cs.names [])) b -> s₁.heap.get? b = Option.none /\ H3.get? b = Option.none := by
      rintro b (rfl | ⟨x, hk, e⟩)
      . exact ⟨none1 _ Y.freshC, Y.freshC⟩
      . have := T4.newC x b hk e
        rcases cellC x b e with ⟨o, q⟩ | q
        . rw [this] at q; refine' q
        . exact ⟨this, q⟩
    have Rn : Run prog w hB s₁.heap (Bc B env W cs fun b => b ∈ wr \/ b = D) cs (cenvOf env cs C (clFold env cs.names [])) (Wc cs W) (under cs r) (esc elt) D ps [] I fp wr P Sx 0 { s₂ with heap := H4, toks := s₂.toks } := by
      refine ⟨e2.gens (e1.gens G), S4, k14, .inr (.inr rfl), fun b hb => .inr (.inl hb), it2.walks, ?_, fun i x hi hx => ?_, it2.go, fun b hb => ?_, fun b hb => notIn3 b (.inl hb), it2.alive, fun b hb => (it2.wrNew b hb).1, ⟨#[], hD3.at fun o e => Y.k34 D o e, RdL.nil⟩⟩
      . exact (it2.walks A R.handled).frame _ _ _ it2.st fun b y_ o e => k24 b o e
      . obtain ⟨q, e1', e2'⟩ := it2.val i x hi hx
        refine ⟨q, e1', e2'.mono (Gr.of_ext k14) fun b o e v => ?_⟩
        rcases veC b v with v | v
        . exact v
        . rw [v] at e; refine' e
      . rcases it2.fpOld b hb with hw | ⟨o, e⟩
        . refine ⟨fun hp => ?_, fun e => ?_⟩
          . obtain ⟨o, e⟩ := (it2.wrNew b hw).2
            have := (put4 b hp).2
            rw [k23 b o e] at this; refine' this
          . subst e
            obtain ⟨o, e⟩ := (it2.wrNew b hw).2
            rw [hD2] at e; refine' e
        . exact ⟨fun hp => (by rw [(put4 b hp).1] at e; refine' e), fun q => (by cases q.symm; rw [hD1] at e; refine' e)⟩
    have hturns : turns (turnF o cs elt t ifs gs (under cs r)) (ps.drop 0) = some out := by rw [List.drop_zero]; exact hout
    have U : ps ≠ [] -> unbound (under cs r) t = true := by
      intro hne
      cases ps with
      | nil => exact absurd rfl hne
      | cons q ps =>
        refine cps fun U J => ?_
        obtain ⟨a', b', ha', _⟩ := turns_len hturns q rfl
        refine J ?_; clear J U
        unfold turnF at ha'
        obtain ⟨r1, hr1, _⟩ := Option.bind_eq_some_iff.mp ha'
        exact under_unbound hr1
    refine codeAny_start (g := ⟨t, it, ifs, 0⟩) (d := 0) rfl rfl (fun Q' E' hq => (it2.walks A R.handled).self 0 _ Q' E' Rn.at_ hq) ?_
    refine codeAny_mono (comp_loop HE HA HG T4 hD1 (notIn3 D (.inr rfl)) gs 0 t it ifs rfl ps.length A _ (under cs r) ps [] out I fp wr P Sx 0 _ (by simp) R U Rn hturns (by simpa using hlen)) fun res s₅ q5 => ?_
    refine cps fun U J => ?_
    obtain ⟨rfl, C5⟩ := q5
    have e15 : Ext s₁ s₅ := ⟨C5.entry, C5.os.trans e2.os, fun g => C5.gens (e2.gens g)⟩
    obtain ⟨vs, pl, rd⟩ := C5.acc
    refine J ?_; clear J U
    have rdl : RdL s₅.heap (fun b => VE B env W (esc elt) b \/ b = C) out vs.toList := rd.less fun b v => by
      rcases v with v | rfl
      . exact ve_in S1 b v
      . exact .inr (.inl rfl)
    have hDC : D ≠ C := (notIn3 D (.inr rfl)).1
    have hs0 : ∀ b, s₁.heap.get? b = Option.none -> s.heap.get? b = Option.none := fun b e => by
      cases q : s.heap.get? b with
      | none => rfl
      | some o => rw [e1.heap b o q] at e; refine' e
    refine hQ s₅ D C out rfl (e1.trans e15) ?_ ⟨vs, pl, rdl⟩ (hs0 C (none1 C Y.freshC)) (hs0 D hD1) hDC (let ⟨m, hn, _⟩ := C5.st.loc; ⟨m, hn⟩)
    refine Exists.intro (D) ⟨vs, rfl, ⟨fun v => ?_, let ⟨n, e⟩ := pl; ⟨_, e, rfl⟩⟩, pl.isList, rdl⟩
    rcases v with v | v
    . obtain ⟨o, ho⟩ := S1.laidE _ D v
      rw [hD1] at ho; refine' ho
    . exact hDC v
  . refine' h3
end
end

section
open PySem PyProof.Rows

section
variable {prog : Program} {w : World} {A : Around} {s : Shared} {hB hE : Heap} {B : Av} {sc cs : Scope} {env : Env} {W : Own} {r r' : Internal.Loc} {o : Orc} {k : Nat}

theorem esc'_of {e : Expr} (h : ∀ x q, e ≠ .Name x q) : esc.esc' e = esc e := by
  refine' e <;> first | (exact absurd rfl (h _ _)) | rfl

noncomputable abbrev Both (s : Shared) (B : Av) (env : Env) (W : Own) (e : Expr) (p : PV) : Value -> Shared -> Prop :=
  fun v s' => Ext s s' /\ Rd s'.heap (VE B env W (esc e)) p v /\ RdS s'.heap (VE B env W (esc.esc' e)) p v
theorem both {e : Expr} {s' : Shared} {p : PV} {v : Value} (hn : ∀ x q, e ≠ .Name x q) (x : Ext s s') (h : Rd s'.heap (VE B env W (esc e)) p v) : Both s B env W e p v s' :=
  ⟨x, h, by rw [esc'_of hn]; exact h.shallow⟩

theorem starEach_plain {e : Expr} {es : List Expr} (h : ∀ x q, e ≠ .Starred x q) : starEach (e :: es) env = (false, eval e env) :: starEach es env := by
  refine' e <;> first | rfl | exact absurd rfl (h _ _)
theorem evs_cons {e : Expr} {es : List Expr} {ps : List PV} (h : evs o sc (e :: es) r = some ps) : (∀ x q, e ≠ .Starred x q) /\ ∃ x xs, ev o sc e r = some x /\ evs o sc es r = some xs /\ ps = x :: xs := by
  have hn : ∀ x q, e ≠ .Starred x q := by rintro x q rfl; simp -iota [v_s0, v_ss, v_s1] at h
  refine ⟨hn, ?_⟩
  have : evs o sc (e :: es) r = (do
    let x <- ev o sc e r
    let xs <- evs o sc es r
    some (x :: xs)) := by refine' e <;> first | rfl | exact absurd rfl (hn _ _)
  rw [this] at h
  refine cps fun U J => ?_
  obtain ⟨x, hx, h⟩ := Option.bind_eq_some_iff.mp h
  obtain ⟨xs, hxs, h⟩ := Option.bind_eq_some_iff.mp h
  refine J ?_; clear J U
  exact ⟨x, xs, hx, hxs, (Option.some.inj h).symm⟩

theorem evs_flags {pos : Pos} : ∀ {es : List Expr} {ps : List PV}, evs o sc es r = some ps -> (backTo pos (starEach es env)).all (fun x => !x.1) = true
  | [], _, _ => rfl
  | e :: es, ps, h => by
    refine cps fun U J => ?_
    obtain ⟨hn, x, xs, _, h2, _⟩ := evs_cons h
    refine J ?_; clear J U
    rw [starEach_plain hn]
    show (!false && (backTo pos (starEach es env)).all (fun x => !x.1)) = true
    rw [evs_flags h2]; rfl

theorem evs_ok {pos : Pos} : ∀ {es : List Expr} {ps : List PV} {s : Shared}, (∀ e ∈ es, EvOk prog w hB k o e) -> Room k A -> AllBare s.gens -> St hB B sc env W r s.heap -> evs o sc es r = some ps ->
    wpAny (model prog w) A (spliced (backTo pos (starEach es env))) (fun vs s' => Ext s s' /\ RdL s'.heap (VE B env W (esc.escs es)) ps vs) NoE s
  | [], ps, s, _, _, _, _, h => by
    simp -iota only [v_s0, v_ss, v_s1, Option.some.injEq] at h; subst h
    exact wpAny_items_nil ⟨.refl, .nil⟩
  | e :: es, ps, s, H, R, G, S, h => by
    refine cps fun U J => ?_
    obtain ⟨hn, x, xs, h1, h2, rfl⟩ := evs_cons h
    refine J ?_; clear J U
    refine wpAny_items_cons ?_ (starEach_plain hn)
    refine wpAny_mono (H e List.mem_cons_self sc env B W r s x A R G S h1) (fun v s₁ q => ?_) fun y_ y_ e => e
    obtain ⟨e1, rd, _⟩ := q
    refine wpAny_mono (evs_ok (fun e he => H e (List.mem_cons_of_mem _ he)) R (e1.gens G) (S.ext e1.heap) h2) (fun vs s₂ q2 => ?_) fun y_ y_ e => e
    obtain ⟨e2, rds⟩ := q2
    refine ⟨e1.trans e2, RdL.cons ((rd.gr e2.gr).less (VE.less ?_)) (rds.less (VE.less ?_))⟩
    . intro y hy; rw [s_1]; exact List.mem_append_left _ hy
    . intro y hy; rw [s_1]; exact List.mem_append_right _ hy

theorem evs_len : ∀ {es : List Expr} {ps : List PV}, evs o sc es r = some ps -> ps.length = es.length
  | [], _, h => by simp -iota only [v_s0, v_ss, v_s1, Option.some.injEq] at h; subst h; rfl
  | e :: es, ps, h => by
    obtain ⟨_, x, xs, _, h2, rfl⟩ := evs_cons h
    simp -iota [evs_len h2]

theorem evalArgs_nilS {f : Value} {Q : Args -> Shared -> Prop} (h : wpAny (model prog w) A (spliced []) (fun vs s' => Q ⟨vs, []⟩ s') NoE s) : wpAny (model prog w) A (evalArgs f true [] []) Q NoE s := by
  unfold evalArgs
  show wpAny _ A (spliced [] >>= _) Q _ s
  refine wpAny_bind (wpAny_mono h (fun vs s' h' => ?_) fun y_ y_ x => x)
  refine wpAny_bind (wpAny_pure ?_)
  refine wpAny_holding ?_
  exact wpAny_bind (wpAny_pure (wpAny_bind (wpAny_pure (wpAny_pure h'))))

theorem callWith_any {pos : Pos} {f : Value} {first : List Value} {es : List Expr} {ps : List PV} {Q : Value -> Shared -> Prop} (hf : (∃ id, f = .builtin id) \/ (∃ t, f = .type t))
    (hev : evs o sc es r = some ps)
    (h : wpAny (model prog w) A (spliced (backTo pos (starEach es env))) (fun vs s₁ => wpAny (model prog w) A (call f (first ++ vs)) Q NoE s₁) NoE s) :
    wpAny (model prog w) A (callWith pos f first (backTo pos (starEach es env)) []) Q NoE s := by
  have hp : (backTo pos (starEach es env)).any (·.1) = false := by
    have := evs_flags (pos := pos) (env := env) hev
    rw [List.all_eq_true] at this
    rw [List.any_eq_false]
    intro x hx
    have := this x hx
    simpa -iota using this
  have ha : wpAny (model prog w) A (evalArgs f true (backTo pos (starEach es env)) []) (fun a s₁ => wpAny (model prog w) A (call f (first ++ a.pos) a.kw) Q NoE s₁) NoE s := by
    cases es with
    | nil => exact evalArgs_nilS h
    | cons e es =>
      obtain ⟨hn, _⟩ := evs_cons hev
      rw [starEach_plain hn] at h ⊢
      exact Calls.evalArgs_plain h
  rcases hf with ⟨id, rfl⟩ | ⟨t, rfl⟩
  . exact Calls.callWith_builtin hp ha
  . exact PyProof.Rows.callWith_type hp ha

theorem tr_of_ev {e : Expr} (H : EvOk prog w hB k o e) (he : ∀ env whole, isTrue e env whole = (do let v <- whole; standAt e.pos; holding [v] (truthy v))) : TrOk prog w hB k o e := by
  intro sc env B W r s p b A R G S h hb
  refine wpAny_isTrue_value ?_ (he _ _)
  refine wpAny_mono (H sc env B W r s p A R G S h) (fun v s₁ q => ?_) fun y_ y_ e => e
  obtain ⟨e1, rd, _⟩ := q
  exact wpAny_mono (truth_ok hb rd) (fun c s₂ q => ⟨q.1, e1.trans q.2⟩) fun y_ y_ e => e

theorem ev_const {c : Const} {j : Nat} {pos : Pos} : EvOk prog w hB k o (.Constant c j pos) := by
  intro sc env B W r s p A R G S h
  simp -iota only [v_c, v_n, v_bool, v_bin, v_not, v_neg, v_if, v_list, v_tup, v_cmp1, v_cmp2, v_call, v_meth, v_slc, v_sub, v_comp, v_star, v_set, v_setc, v_dictc, v_kw, v_comp0] at h
  cases c with
  | none => obtain rfl := Option.some.inj h; exact wpAny_Constant_none (both (fun y_ y_ => nofun) .refl rd_none)
  | bool b => obtain rfl := Option.some.inj h; exact wpAny_Constant_bool (both (fun y_ y_ => nofun) .refl rd_bool)
  | int i => obtain rfl := Option.some.inj h; exact wpAny_Constant_int (both (fun y_ y_ => nofun) ext_toks rd_int)
  | str x => obtain rfl := Option.some.inj h; exact wpAny_Constant_str (both (fun y_ y_ => nofun) ext_toks rd_str)
  | _ => exact ns h

theorem look_kd {x : Str} {p : PV} (h : look o sc r x = some p) : ∃ q, kd sc x = some q := by
  cases hk : kd sc x with
  | none => unfold look at h; rw [hk] at h; exact ns h
  | some q => exact ⟨q, rfl⟩

theorem ev_name (O : OrcOk prog w hB k o) {x : Str} {pos : Pos} : EvOk prog w hB k o (.Name x pos) := by
  intro sc env B W r s p A R G S h
  simp -iota only [v_c, v_n, v_bool, v_bin, v_not, v_neg, v_if, v_list, v_tup, v_cmp1, v_cmp2, v_call, v_meth, v_slc, v_sub, v_comp, v_star, v_set, v_setc, v_dictc, v_kw, v_comp0] at h
  obtain ⟨q, hq⟩ := look_kd h
  refine wpAny_Name ?_ (S.noDebug x q hq)
  refine wpAny_mono (loadName_ok O S h) (fun v s₁ q => ?_) fun y_ y_ e => e
  obtain ⟨rfl, h1, h2⟩ := q
  refine ⟨.refl, ?_, ?_⟩
  . simpa -iota only [s_n, s_if, s_bool, s_list, s_tup, s_comp, s_call, s_meth, s_sub, s_bin, s_c, s_cmp, s_un] using h1
  . exact h2

set_option backward.match.sparseCases true in
theorem bool_ok {op : BoolOp} {pos : Pos} : ∀ {vs : List Expr} {p : PV} {s : Shared}, (∀ e ∈ vs, EvOk prog w hB k o e) -> Room k A -> AllBare s.gens -> St hB B sc env W r s.heap -> evBool o sc op vs r = some p ->
    wpAny (model prog w) A (boolOp pos op (evalEach vs env)) (fun v s' => Ext s s' /\ Rd s'.heap (VE B env W (esc.escs vs)) p v) NoE s
  | [], p, s, _, _, _, _, h => by simp -iota [v_b0, v_b1, v_b2] at h
  | [e], p, s, H, R, G, S, h => by
    simp -iota only [v_b0, v_b1, v_b2] at h
    show wpAny (model prog w) A (eval e env) _ _ _
    refine wpAny_mono (H e List.mem_cons_self sc env B W r s p A R G S h) (fun v s₁ q => ⟨q.1, q.2.1.less (VE.less ?_)⟩) fun y_ y_ e => e
    intro y hy; simp -iota only [s_0, s_1]; simpa -iota using hy
  | e :: e' :: es, p, s, H, R, G, S, h => by
    simp -iota only [v_b0, v_b1, v_b2] at h
    refine cps fun U J => ?_
    obtain ⟨x, hx, h⟩ := Option.bind_eq_some_iff.mp h
    obtain ⟨b, hb, h⟩ := Option.bind_eq_some_iff.mp h
    refine J ?_; clear J U
    have tail : evBool o sc op (e' :: es) r = some p -> ∀ s₂, Ext s s₂ -> wpAny (model prog w) A (boolOp pos op (evalEach (e' :: es) env)) (fun v s' => Ext s s' /\ Rd s'.heap (VE B env W (esc.escs (e :: e' :: es))) p v) NoE s₂ := fun h s₂ e2 => by
      refine wpAny_mono (bool_ok (fun e he => H e (List.mem_cons_of_mem _ he)) R (e2.gens G) (S.ext e2.heap) h) (fun v s₃ q => ⟨e2.trans q.1, q.2.less (VE.less ?_)⟩) fun y_ y_ e => e
      intro y hy; rw [s_1]; exact List.mem_append_right _ hy
    have here : ∀ {v s₁ s₂}, Ext s s₁ -> Ext s₁ s₂ -> Rd s₁.heap (VE B env W (esc e)) x v -> x = p -> Ext s s₂ /\ Rd s₂.heap (VE B env W (esc.escs (e :: e' :: es))) p v := fun e1 e2 rd hp => by
      subst hp
      refine ⟨e1.trans e2, (rd.gr e2.gr).less (VE.less ?_)⟩
      intro y hy; rw [s_1]; exact List.mem_append_left _ hy
    show wpAny (model prog w) A (do
      let v <- eval e env
      standAt pos
      let t <- holding [v] (truthy v)
      match op, t with
      | .And, false | .Or, true => pure v
      | _, _ => boolOp pos op (evalEach (e' :: es) env)) _ _ s
    refine wpAny_bind (wpAny_mono (H e List.mem_cons_self sc env B W r s x A R G S hx) (fun v s₁ q => ?_) fun y_ y_ e => e)
    obtain ⟨e1, rd, _⟩ := q
    refine wpAny_bind (wpAny_standAt (wpAny_bind (wpAny_holding (wpAny_mono (truth_ok hb rd) (fun c s₂ q => ?_) fun y_ y_ e => e))))
    obtain ⟨rfl, e2⟩ := q
    refine' op <;> refine' c
    . exact wpAny_pure (here e1 e2 rd (Option.some.inj h))
    . exact tail h s₂ (e1.trans e2)
    . exact tail h s₂ (e1.trans e2)
    . exact wpAny_pure (here e1 e2 rd (Option.some.inj h))

theorem all_ok {op : BoolOp} : ∀ {vs : List Expr} {p : PV} {b : Bool} {s : Shared}, (∀ e ∈ vs, TrOk prog w hB k o e) -> Room k A -> AllBare s.gens -> St hB B sc env W r s.heap -> evBool o sc op vs r = some p -> truth p = some b ->
    wpAny (model prog w) A (allTrue op vs env) (fun c s' => c = b /\ Ext s s') NoE s
  | [], p, b, s, _, _, _, _, h, _ => by simp -iota [v_b0, v_b1, v_b2] at h
  | [e], p, b, s, H, R, G, S, h, hb => by
    simp -iota only [v_b0, v_b1, v_b2] at h
    have := H e List.mem_cons_self sc env B W r s p b A R G S h hb
    refine' op
    . refine wpAny_allTrue_And_cons (wpAny_mono this (fun c s₁ q => ?_) fun y_ y_ e => e)
      obtain ⟨rfl, e1⟩ := q
      refine' c
      . exact ⟨rfl, e1⟩
      . exact wpAny_allTrue_And_nil ⟨rfl, e1⟩
    . refine wpAny_allTrue_Or_cons (wpAny_mono this (fun c s₁ q => ?_) fun y_ y_ e => e)
      obtain ⟨rfl, e1⟩ := q
      refine' c
      . exact wpAny_allTrue_Or_nil ⟨rfl, e1⟩
      . exact ⟨rfl, e1⟩
  | e :: e' :: es, p, b, s, H, R, G, S, h, hb => by
    simp -iota only [v_b0, v_b1, v_b2] at h
    refine cps fun U J => ?_
    obtain ⟨x, hx, h⟩ := Option.bind_eq_some_iff.mp h
    obtain ⟨b', hb', h⟩ := Option.bind_eq_some_iff.mp h
    refine J ?_; clear J U
    have this := H e List.mem_cons_self sc env B W r s x b' A R G S hx hb'
    have tail : evBool o sc op (e' :: es) r = some p -> ∀ s₂, Ext s s₂ -> wpAny (model prog w) A (allTrue op (e' :: es) env) (fun c s' => c = b /\ Ext s s') NoE s₂ := fun h s₂ e2 =>
      wpAny_mono (all_ok (fun e he => H e (List.mem_cons_of_mem _ he)) R (e2.gens G) (S.ext e2.heap) h hb) (fun v s₃ q => ⟨q.1, e2.trans q.2⟩) fun y_ y_ e => e
    have here : x = p -> b' = b := fun e => by subst e; rw [hb'] at hb; exact Option.some.inj hb
    refine' op
    . refine wpAny_allTrue_And_cons (wpAny_mono this (fun c s₁ q => ?_) fun y_ y_ e => e)
      obtain ⟨rfl, e1⟩ := q
      refine' c
      . exact ⟨here (Option.some.inj h), e1⟩
      . exact tail h _ e1
    . refine wpAny_allTrue_Or_cons (wpAny_mono this (fun c s₁ q => ?_) fun y_ y_ e => e)
      obtain ⟨rfl, e1⟩ := q
      refine' c
      . exact tail h _ e1
      . exact ⟨here (Option.some.inj h), e1⟩
end
end

section
open PySem PyProof.Rows

section
variable {prog : Program} {w : World} {A : Around} {s : Shared} {hB hE : Heap} {B : Av} {sc cs : Scope} {env : Env} {W : Own} {r r' : Internal.Loc} {o : Orc} {k : Nat}

theorem notMarks {op : CmpOp} {e : Expr} {p : PV} (h : ev o sc e r = some p) : behindInMarks op e = false := by
  refine' e <;> first | rfl | (simp -iota [v_c, v_n, v_bool, v_bin, v_not, v_neg, v_if, v_list, v_tup, v_cmp1, v_cmp2, v_call, v_meth, v_slc, v_sub, v_comp, v_star, v_set, v_setc, v_dictc, v_kw, v_comp0] at h; done)

noncomputable abbrev V0 : Av := fun y_ => False
theorem Rd.v0 {h : Heap} {V : Av} {p : PV} {v : Value} (x : Rd h V p v) : Rd h V0 p v := x.less fun y_ q => q.elim
theorem RdL.v0 {h : Heap} {V : Av} {p : List PV} {v : List Value} (x : RdL h V p v) : RdL h V0 p v := x.less fun y_ q => q.elim

theorem ev_cmp1 {a b : Expr} {op : CmpOp} {pos : Pos} (Ha : EvOk prog w hB k o a) (Hb : EvOk prog w hB k o b) : EvOk prog w hB k o (.Compare a [op] [b] pos) := by
  intro sc env B W r s p A R G S h
  simp -iota only [v_c, v_n, v_bool, v_bin, v_not, v_neg, v_if, v_list, v_tup, v_cmp1, v_cmp2, v_call, v_meth, v_slc, v_sub, v_comp, v_star, v_set, v_setc, v_dictc, v_kw, v_comp0] at h
  refine cps fun U J => ?_
  obtain ⟨x, hx, h⟩ := Option.bind_eq_some_iff.mp h
  obtain ⟨y, hy, h⟩ := Option.bind_eq_some_iff.mp h
  obtain ⟨c, hc, h⟩ := Option.bind_eq_some_iff.mp h
  refine J ?_; clear J U
  refine' h
  refine wpAny_Compare1 ?_ (notMarks hy)
  refine wpAny_mono (Ha sc env B W r s x A R G S hx) (fun v s₁ q1 => ?_) fun y_ y_ e => e
  refine wpAny_mono (Hb sc env B W r s₁ y A R (q1.1.gens G) (S.ext q1.1.heap) hy) (fun u s₂ q2 => ?_) fun y_ y_ e => e
  refine wpAny_mono (cmp_ok (V := V0) (s_l R.units) hc (q1.2.1.gr q2.1.gr).v0 q2.2.1.v0) (fun t s₃ q3 => ?_) fun y_ y_ e => e
  obtain ⟨rfl, e3⟩ := q3
  exact both (fun y_ y_ => nofun) (q1.1.trans (q2.1.trans e3)) rd_bool

theorem tr_cmp1 {a b : Expr} {op : CmpOp} {pos : Pos} (Ha : EvOk prog w hB k o a) (Hb : EvOk prog w hB k o b) : TrOk prog w hB k o (.Compare a [op] [b] pos) := by
  intro sc env B W r s p t A R G S h ht
  simp -iota only [v_c, v_n, v_bool, v_bin, v_not, v_neg, v_if, v_list, v_tup, v_cmp1, v_cmp2, v_call, v_meth, v_slc, v_sub, v_comp, v_star, v_set, v_setc, v_dictc, v_kw, v_comp0] at h
  refine cps fun U J => ?_
  obtain ⟨x, hx, h⟩ := Option.bind_eq_some_iff.mp h
  obtain ⟨y, hy, h⟩ := Option.bind_eq_some_iff.mp h
  obtain ⟨c, hc, h⟩ := Option.bind_eq_some_iff.mp h
  refine J ?_; clear J U
  refine' h
  refine' ht
  refine wpAny_isTrue_Compare1 ?_ (notMarks hy)
  refine wpAny_mono (Ha sc env B W r s x A R G S hx) (fun v s₁ q1 => ?_) fun y_ y_ e => e
  refine wpAny_mono (Hb sc env B W r s₁ y A R (q1.1.gens G) (S.ext q1.1.heap) hy) (fun u s₂ q2 => ?_) fun y_ y_ e => e
  refine wpAny_mono (cmp_ok (V := V0) (s_l R.units) hc (q1.2.1.gr q2.1.gr).v0 q2.2.1.v0) (fun t s₃ q3 => ?_) fun y_ y_ e => e
  obtain ⟨rfl, e3⟩ := q3
  exact wpAny_truthy_bool ⟨rfl, q1.1.trans (q2.1.trans e3)⟩

theorem cmp2_ok {a b c : Expr} {op op' : CmpOp} {pos : Pos} {p : PV} (Ha : EvOk prog w hB k o a) (Hb : EvOk prog w hB k o b) (Hc : EvOk prog w hB k o c) (R : Room k A) (G : AllBare s.gens) (S : St hB B sc env W r s.heap) (h : ev o sc (.Compare a [op, op'] [b, c] pos) r = some p) :
    ∃ t, p = .bool t /\ wpAny (model prog w) A (do compareChain pos (<- eval a env) [op, op'] (markedEach [op, op'] [b, c] (evalEach [b, c] env))) (fun v s' => v = .bool t /\ Ext s s') NoE s := by
  simp -iota only [v_c, v_n, v_bool, v_bin, v_not, v_neg, v_if, v_list, v_tup, v_cmp1, v_cmp2, v_call, v_meth, v_slc, v_sub, v_comp, v_star, v_set, v_setc, v_dictc, v_kw, v_comp0] at h
  refine cps fun U J => ?_
  obtain ⟨x, hx, h⟩ := Option.bind_eq_some_iff.mp h
  obtain ⟨y, hy, h⟩ := Option.bind_eq_some_iff.mp h
  obtain ⟨t1, ht1, h⟩ := Option.bind_eq_some_iff.mp h
  refine J ?_; clear J U
  have hp : ∃ t, p = .bool t := by
    refine' t1
    . simp at h; exact ⟨_, h.symm⟩
    . simp -iota only [if_true] at h
      refine cps fun U J => ?_
      obtain ⟨z, hz, h⟩ := Option.bind_eq_some_iff.mp h
      obtain ⟨t2, ht2, h⟩ := Option.bind_eq_some_iff.mp h
      refine J ?_; clear J U
      exact ⟨t2, (Option.some.inj h).symm⟩
  obtain ⟨t, rfl⟩ := hp
  refine ⟨t, rfl, ?_⟩
  have hm : markedEach [op, op'] [b, c] (evalEach [b, c] env) = [eval b env, markedBehindIn op' c (eval c env)] := rfl
  rw [hm]
  refine wpAny_bind (wpAny_mono (Ha sc env B W r s x A R G S hx) (fun v s₁ q1 => ?_) fun y_ y_ e => e)
  show wpAny _ A (do
    let rv <- holding [v] (eval b env)
    standAt pos
    let c' <- holding [v, rv] (compareOp op v rv)
    release [v, rv] [c']
    if <- holding [c', rv] (truthy c') then compareChain pos rv [op'] [markedBehindIn op' c (eval c env)] else pure c') _ _ _
  refine wpAny_bind (wpAny_holding (wpAny_mono (Hb sc env B W r s₁ y A R (q1.1.gens G) (S.ext q1.1.heap) hy) (fun u s₂ q2 => ?_) fun y_ y_ e => e))
  have e12 := q1.1.trans q2.1
  refine wpAny_bind (wpAny_standAt (wpAny_bind (wpAny_holding (wpAny_mono (cmp_ok (V := V0) (s_l R.units) ht1 (q1.2.1.gr q2.1.gr).v0 q2.2.1.v0) (fun t s₃ q3 => ?_) fun y_ y_ e => e))))
  obtain ⟨rfl, e3⟩ := q3
  refine wpAny_bind (PySem.wpAny_release ?_)
  refine wpAny_bind (wpAny_holding (wpAny_truthy_bool ?_))
  refine' t1
  . simp at h; subst h
    exact wpAny_pure ⟨rfl, e12.trans e3⟩
  . simp -iota only [if_true] at h ⊢
    refine cps fun U J => ?_
    obtain ⟨z, hz, h⟩ := Option.bind_eq_some_iff.mp h
    obtain ⟨t2, ht2, h⟩ := Option.bind_eq_some_iff.mp h
    refine J ?_; clear J U
    refine' h
    rw [markedBehindIn_of_false (notMarks hz)]
    have e13 := e12.trans e3
    refine wpAny_bind (wpAny_holding (wpAny_mono (Hc sc env B W r s₃ z A R (e13.gens G) (S.ext e13.heap) hz) (fun z' s₄ q4 => ?_) fun y_ y_ e => e))
    refine wpAny_bind (wpAny_standAt (wpAny_operating ?_))
    refine wpAny_mono (cmp_ok (V := V0) (s_l R.units) ht2 ((q2.2.1.gr (e3.trans q4.1).gr)).v0 q4.2.1.v0) (fun t s₅ q5 => ?_) fun y_ y_ e => e
    exact ⟨q5.1, e13.trans (q4.1.trans q5.2)⟩
theorem test2_ok {a b c : Expr} {op op' : CmpOp} {pos : Pos} {p : PV} (Ha : EvOk prog w hB k o a) (Hb : EvOk prog w hB k o b) (Hc : EvOk prog w hB k o c) (R : Room k A) (G : AllBare s.gens) (S : St hB B sc env W r s.heap) (h : ev o sc (.Compare a [op, op'] [b, c] pos) r = some p) :
    ∃ t, p = .bool t /\ wpAny (model prog w) A (do testChain pos (<- eval a env) [op, op'] (markedEach [op, op'] [b, c] (evalEach [b, c] env))) (fun v s' => v = t /\ Ext s s') NoE s := by
  simp -iota only [v_c, v_n, v_bool, v_bin, v_not, v_neg, v_if, v_list, v_tup, v_cmp1, v_cmp2, v_call, v_meth, v_slc, v_sub, v_comp, v_star, v_set, v_setc, v_dictc, v_kw, v_comp0] at h
  refine cps fun U J => ?_
  obtain ⟨x, hx, h⟩ := Option.bind_eq_some_iff.mp h
  obtain ⟨y, hy, h⟩ := Option.bind_eq_some_iff.mp h
  obtain ⟨t1, ht1, h⟩ := Option.bind_eq_some_iff.mp h
  refine J ?_; clear J U
  have hp : ∃ t, p = .bool t := by
    refine' t1
    . simp at h; exact ⟨_, h.symm⟩
    . simp -iota only [if_true] at h
      refine cps fun U J => ?_
      obtain ⟨z, hz, h⟩ := Option.bind_eq_some_iff.mp h
      obtain ⟨t2, ht2, h⟩ := Option.bind_eq_some_iff.mp h
      refine J ?_; clear J U
      exact ⟨t2, (Option.some.inj h).symm⟩
  obtain ⟨t, rfl⟩ := hp
  refine ⟨t, rfl, ?_⟩
  have hm : markedEach [op, op'] [b, c] (evalEach [b, c] env) = [eval b env, markedBehindIn op' c (eval c env)] := rfl
  rw [hm]
  refine wpAny_bind (wpAny_mono (Ha sc env B W r s x A R G S hx) (fun v s₁ q1 => ?_) fun y_ y_ e => e)
  show wpAny _ A (do
    let rv <- holding [v] (eval b env)
    standAt pos
    let c' <- holding [v, rv] (compareOp op v rv)
    release [v, rv] [c']
    if <- holding [c', rv] (truthy c') then testChain pos rv [op'] [markedBehindIn op' c (eval c env)] else pure false) _ _ _
  refine wpAny_bind (wpAny_holding (wpAny_mono (Hb sc env B W r s₁ y A R (q1.1.gens G) (S.ext q1.1.heap) hy) (fun u s₂ q2 => ?_) fun y_ y_ e => e))
  have e12 := q1.1.trans q2.1
  refine wpAny_bind (wpAny_standAt (wpAny_bind (wpAny_holding (wpAny_mono (cmp_ok (V := V0) (s_l R.units) ht1 (q1.2.1.gr q2.1.gr).v0 q2.2.1.v0) (fun t s₃ q3 => ?_) fun y_ y_ e => e))))
  obtain ⟨rfl, e3⟩ := q3
  refine wpAny_bind (PySem.wpAny_release ?_)
  refine wpAny_bind (wpAny_holding (wpAny_truthy_bool ?_))
  refine' t1
  . simp at h; subst h
    exact wpAny_pure ⟨rfl, e12.trans e3⟩
  . simp -iota only [if_true] at h ⊢
    refine cps fun U J => ?_
    obtain ⟨z, hz, h⟩ := Option.bind_eq_some_iff.mp h
    obtain ⟨t2, ht2, h⟩ := Option.bind_eq_some_iff.mp h
    refine J ?_; clear J U
    refine' h
    rw [markedBehindIn_of_false (notMarks hz)]
    have e13 := e12.trans e3
    refine wpAny_bind (wpAny_holding (wpAny_mono (Hc sc env B W r s₃ z A R (e13.gens G) (S.ext e13.heap) hz) (fun z' s₄ q4 => ?_) fun y_ y_ e => e))
    refine wpAny_bind (wpAny_standAt (wpAny_bind (wpAny_operating ?_)))
    refine wpAny_mono (cmp_ok (V := V0) (s_l R.units) ht2 ((q2.2.1.gr (e3.trans q4.1).gr)).v0 q4.2.1.v0) (fun t s₅ q5 => ?_) fun y_ y_ e => e
    obtain ⟨rfl, e5⟩ := q5
    exact wpAny_holding (wpAny_truthy_bool ⟨rfl, e13.trans (q4.1.trans e5)⟩)

theorem ev_cmp2 {a b c : Expr} {op op' : CmpOp} {pos : Pos} (Ha : EvOk prog w hB k o a) (Hb : EvOk prog w hB k o b) (Hc : EvOk prog w hB k o c) : EvOk prog w hB k o (.Compare a [op, op'] [b, c] pos) := by
  intro sc env B W r s p A R G S h
  refine cps fun U J => ?_
  obtain ⟨t, rfl, q⟩ := cmp2_ok Ha Hb Hc R G S h
  refine J ?_; clear J U
  rw [arm_eval_Compare]
  exact wpAny_mono q (fun v s' q => both (fun y_ y_ => nofun) q.2 (by rw [q.1]; exact rd_bool)) fun y_ y_ e => e
theorem tr_cmp2 {a b c : Expr} {op op' : CmpOp} {pos : Pos} (Ha : EvOk prog w hB k o a) (Hb : EvOk prog w hB k o b) (Hc : EvOk prog w hB k o c) : TrOk prog w hB k o (.Compare a [op, op'] [b, c] pos) := by
  intro sc env B W r s p t A R G S h ht
  refine cps fun U J => ?_
  obtain ⟨t', rfl, q⟩ := test2_ok Ha Hb Hc R G S h
  refine J ?_; clear J U
  refine' ht
  exact q

theorem ev_bin {a b : Expr} {op : Operator} {pos : Pos} (Ha : EvOk prog w hB k o a) (Hb : EvOk prog w hB k o b) : EvOk prog w hB k o (.BinOp a op b pos) := by
  intro sc env B W r s p A R G S h
  simp -iota only [v_c, v_n, v_bool, v_bin, v_not, v_neg, v_if, v_list, v_tup, v_cmp1, v_cmp2, v_call, v_meth, v_slc, v_sub, v_comp, v_star, v_set, v_setc, v_dictc, v_kw, v_comp0] at h
  refine cps fun U J => ?_
  obtain ⟨x, hx, h⟩ := Option.bind_eq_some_iff.mp h
  obtain ⟨y, hy, h⟩ := Option.bind_eq_some_iff.mp h
  refine J ?_; clear J U
  refine wpAny_BinOp ?_
  refine wpAny_mono (Ha sc env B W r s x A R G S hx) (fun v s₁ q1 => ?_) fun y_ y_ e => e
  refine wpAny_mono (Hb sc env B W r s₁ y A R (q1.1.gens G) (S.ext q1.1.heap) hy) (fun u s₂ q2 => ?_) fun y_ y_ e => e
  have e12 := q1.1.trans q2.1
  have S2 := S.ext e12.heap
  refine wpAny_mono (bin_okS (V := VE B env W (esc (.BinOp a op b pos))) (S2.laidE _) h (q1.2.2.mono q2.1.heap fun y_ y_ y_ => VE.less ?_ _) (q2.2.2.mono (fun y_ y_ e => e) fun y_ y_ y_ => VE.less ?_ _)) (fun t s₃ q3 => ?_) fun y_ y_ e => e
  . intro y hy; simp -iota only [s_n, s_if, s_bool, s_list, s_tup, s_comp, s_call, s_meth, s_sub, s_bin, s_c, s_cmp, s_un]; exact List.mem_append_left _ hy
  . intro y hy; simp -iota only [s_n, s_if, s_bool, s_list, s_tup, s_comp, s_call, s_meth, s_sub, s_bin, s_c, s_cmp, s_un]; exact List.mem_append_right _ hy
  . exact both (fun y_ y_ => nofun) (e12.trans q3.1) q3.2

theorem ev_not {a : Expr} {pos : Pos} (Ha : EvOk prog w hB k o a) : EvOk prog w hB k o (.UnaryOp .Not a pos) := by
  intro sc env B W r s p A R G S h
  simp -iota only [v_c, v_n, v_bool, v_bin, v_not, v_neg, v_if, v_list, v_tup, v_cmp1, v_cmp2, v_call, v_meth, v_slc, v_sub, v_comp, v_star, v_set, v_setc, v_dictc, v_kw, v_comp0] at h
  refine cps fun U J => ?_
  obtain ⟨x, hx, h⟩ := Option.bind_eq_some_iff.mp h
  obtain ⟨b, hb, h⟩ := Option.bind_eq_some_iff.mp h
  refine J ?_; clear J U
  refine' h
  refine wpAny_UnaryOp ?_
  refine wpAny_mono (Ha sc env B W r s x A R G S hx) (fun v s₁ q1 => ?_) fun y_ y_ e => e
  refine not_value (wpAny_mono (truth_ok hb q1.2.1) (fun c s₂ q2 => ?_) fun y_ y_ e => e)
  obtain ⟨rfl, e2⟩ := q2
  exact both (fun y_ y_ => nofun) (q1.1.trans e2) rd_bool
theorem tr_not {a : Expr} {pos : Pos} (Ha : TrOk prog w hB k o a) : TrOk prog w hB k o (.UnaryOp .Not a pos) := by
  intro sc env B W r s p t A R G S h ht
  simp -iota only [v_c, v_n, v_bool, v_bin, v_not, v_neg, v_if, v_list, v_tup, v_cmp1, v_cmp2, v_call, v_meth, v_slc, v_sub, v_comp, v_star, v_set, v_setc, v_dictc, v_kw, v_comp0] at h
  refine cps fun U J => ?_
  obtain ⟨x, hx, h⟩ := Option.bind_eq_some_iff.mp h
  obtain ⟨b, hb, h⟩ := Option.bind_eq_some_iff.mp h
  refine J ?_; clear J U
  refine' h; refine' ht
  refine wpAny_isTrue_Not (wpAny_mono (Ha sc env B W r s x b A R G S hx hb) (fun c s₁ q1 => ?_) fun y_ y_ e => e)
  obtain ⟨rfl, e1⟩ := q1
  exact ⟨rfl, e1⟩

theorem ev_neg {a : Expr} {pos : Pos} (Ha : EvOk prog w hB k o a) : EvOk prog w hB k o (.UnaryOp .USub a pos) := by
  intro sc env B W r s p A R G S h
  simp -iota only [v_c, v_n, v_bool, v_bin, v_not, v_neg, v_if, v_list, v_tup, v_cmp1, v_cmp2, v_call, v_meth, v_slc, v_sub, v_comp, v_star, v_set, v_setc, v_dictc, v_kw, v_comp0] at h
  obtain ⟨x, hx, h⟩ := Option.bind_eq_some_iff.mp h
  obtain ⟨n, rfl, h⟩ := int_inv h
  cases h
  refine wpAny_UnaryOp ?_
  refine wpAny_mono (Ha sc env B W r s _ A R G S hx) (fun v s₁ q1 => ?_) fun y_ y_ e => e
  have rd := q1.2.1
  obtain ⟨t, rfl⟩ := rd
  exact PySem.P.neg_int (both (fun y_ y_ => nofun) (q1.1.trans ext_toks) rd_int)

theorem ev_if {t a b : Expr} {pos : Pos} (Ht : TrOk prog w hB k o t) (Ha : EvOk prog w hB k o a) (Hb : EvOk prog w hB k o b) : EvOk prog w hB k o (.IfExp t a b pos) := by
  intro sc env B W r s p A R G S h
  simp -iota only [v_c, v_n, v_bool, v_bin, v_not, v_neg, v_if, v_list, v_tup, v_cmp1, v_cmp2, v_call, v_meth, v_slc, v_sub, v_comp, v_star, v_set, v_setc, v_dictc, v_kw, v_comp0] at h
  refine cps fun U J => ?_
  obtain ⟨x, hx, h⟩ := Option.bind_eq_some_iff.mp h
  obtain ⟨c, hc, h⟩ := Option.bind_eq_some_iff.mp h
  refine J ?_; clear J U
  refine wpAny_IfExp (wpAny_mono (Ht sc env B W r s x c A R G S hx hc) (fun c' s₁ q1 => ?_) fun y_ y_ e => e)
  obtain ⟨rfl, e1⟩ := q1
  refine' c' <;> simp -iota only [if_true, Bool.false_eq_true, if_false] at h ⊢
  . refine wpAny_mono (Hb sc env B W r s₁ p A R (e1.gens G) (S.ext e1.heap) h) (fun u s₂ q2 => both (fun y_ y_ => nofun) (e1.trans q2.1) (q2.2.1.less (VE.less ?_))) fun y_ y_ e => e
    intro y hy; simp -iota only [s_n, s_if, s_bool, s_list, s_tup, s_comp, s_call, s_meth, s_sub, s_bin, s_c, s_cmp, s_un]; exact List.mem_append_right _ hy
  . refine wpAny_mono (Ha sc env B W r s₁ p A R (e1.gens G) (S.ext e1.heap) h) (fun u s₂ q2 => both (fun y_ y_ => nofun) (e1.trans q2.1) (q2.2.1.less (VE.less ?_))) fun y_ y_ e => e
    intro y hy; simp -iota only [s_n, s_if, s_bool, s_list, s_tup, s_comp, s_call, s_meth, s_sub, s_bin, s_c, s_cmp, s_un]; exact List.mem_append_left _ hy
theorem tr_if {t a b : Expr} {pos : Pos} (Ht : TrOk prog w hB k o t) (Ha : TrOk prog w hB k o a) (Hb : TrOk prog w hB k o b) : TrOk prog w hB k o (.IfExp t a b pos) := by
  intro sc env B W r s p u A R G S h hu
  simp -iota only [v_c, v_n, v_bool, v_bin, v_not, v_neg, v_if, v_list, v_tup, v_cmp1, v_cmp2, v_call, v_meth, v_slc, v_sub, v_comp, v_star, v_set, v_setc, v_dictc, v_kw, v_comp0] at h
  refine cps fun U J => ?_
  obtain ⟨x, hx, h⟩ := Option.bind_eq_some_iff.mp h
  obtain ⟨c, hc, h⟩ := Option.bind_eq_some_iff.mp h
  refine J ?_; clear J U
  show wpAny _ A (do if <- isTrue t env (eval t env) then isTrue a env (eval a env) else isTrue b env (eval b env)) _ _ _
  refine wpAny_bind (wpAny_mono (Ht sc env B W r s x c A R G S hx hc) (fun c' s₁ q1 => ?_) fun y_ y_ e => e)
  obtain ⟨rfl, e1⟩ := q1
  refine' c' <;> simp -iota only [if_true, Bool.false_eq_true, if_false] at h ⊢
  . exact wpAny_mono (Hb sc env B W r s₁ p u A R (e1.gens G) (S.ext e1.heap) h hu) (fun c s₂ q2 => ⟨q2.1, e1.trans q2.2⟩) fun y_ y_ e => e
  . exact wpAny_mono (Ha sc env B W r s₁ p u A R (e1.gens G) (S.ext e1.heap) h hu) (fun c s₂ q2 => ⟨q2.1, e1.trans q2.2⟩) fun y_ y_ e => e

theorem ev_list {es : List Expr} {pos : Pos} (H : ∀ e ∈ es, EvOk prog w hB k o e) : EvOk prog w hB k o (.List es pos) := by
  intro sc env B W r s p A R G S h
  simp -iota only [v_c, v_n, v_bool, v_bin, v_not, v_neg, v_if, v_list, v_tup, v_cmp1, v_cmp2, v_call, v_meth, v_slc, v_sub, v_comp, v_star, v_set, v_setc, v_dictc, v_kw, v_comp0] at h
  split at h <;> (try (refine' h; done))
  rename_i hl
  refine cps fun U J => ?_
  obtain ⟨ps, hps, rfl⟩ := Option.map_eq_some_iff.mp h
  refine J ?_; clear J U
  refine wpAny_List (wpAny_mono (evs_ok H R G S hps) (fun vs s₁ q => ?_) fun y_ y_ e => e)
  have L := evs_len hps
  have L2 := q.2.length
  refine ⟨lt_wide (Nat.le_trans (Nat.le_of_eq (L2.trans L)) (Nat.le_trans hl (by decide))), both (fun y_ y_ => nofun) (q.1.trans ext_push') ?_⟩
  have : esc (.List es pos) = esc.escs es := by simp -iota only [s_n, s_if, s_bool, s_list, s_tup, s_comp, s_call, s_meth, s_sub, s_bin, s_c, s_cmp, s_un]
  rw [this]
  exact rd_newList ((S.ext q.1.heap).laidE _) q.2
theorem ev_tup {es : List Expr} {j : Nat} {pos : Pos} (H : ∀ e ∈ es, EvOk prog w hB k o e) : EvOk prog w hB k o (.Tuple es j pos) := by
  intro sc env B W r s p A R G S h
  simp -iota only [v_c, v_n, v_bool, v_bin, v_not, v_neg, v_if, v_list, v_tup, v_cmp1, v_cmp2, v_call, v_meth, v_slc, v_sub, v_comp, v_star, v_set, v_setc, v_dictc, v_kw, v_comp0] at h
  split at h <;> (try (refine' h; done))
  rename_i hl
  refine cps fun U J => ?_
  obtain ⟨ps, hps, rfl⟩ := Option.map_eq_some_iff.mp h
  refine J ?_; clear J U
  refine wpAny_Tuple (wpAny_mono (evs_ok H R G S hps) (fun vs s₁ q => ?_) fun y_ y_ e => e)
  have L := evs_len hps
  have L2 := q.2.length
  refine ⟨lt_wide (Nat.le_trans (Nat.le_of_eq (L2.trans L)) (Nat.le_trans hl (by decide))), both (fun y_ y_ => nofun) (q.1.trans ext_push') ?_⟩
  have : esc (.Tuple es j pos) = esc.escs es := by simp -iota only [s_n, s_if, s_bool, s_list, s_tup, s_comp, s_call, s_meth, s_sub, s_bin, s_c, s_cmp, s_un]
  rw [this]
  exact rd_newTup ((S.ext q.1.heap).laidE _) q.2
end
end

section
open PySem PyProof.Rows

section
variable {prog : Program} {w : World} {A : Around} {s : Shared} {hB hE : Heap} {B : Av} {sc cs : Scope} {env : Env} {W : Own} {r r' : Internal.Loc} {o : Orc} {k : Nat}

theorem callWith_fn {pos : Pos} {a : Addr} {ob : Obj} {fd : FuncData} {es : List Expr} {ps : List PV} {Q : Value -> Shared -> Prop}
    (hev : evs o sc es r = some ps)
    (h : wpAny (model prog w) A (spliced (backTo pos (starEach es env))) (fun vs s₁ => (s₁.heap.get? a = some ob /\ ob.data = .func fd) /\ wpAny (model prog w) A (call (.ref a) vs) Q NoE s₁) NoE s) :
    wpAny (model prog w) A (callWith pos (.ref a) [] (backTo pos (starEach es env)) []) Q NoE s := by
  refine Calls.callWith_function (o := ob) (fd := fd) ?_
  cases es with
  | nil => exact evalArgs_nilS h
  | cons e es =>
    obtain ⟨hn, _⟩ := evs_cons hev
    rw [starEach_plain hn] at h ⊢
    exact Calls.evalArgs_plain h

theorem bval_form (b : BF) : (∃ id, bval b = .builtin id) \/ (∃ t, bval b = .type t) := by
  refine' b <;> first | exact .inl ⟨_, rfl⟩ | exact .inr ⟨_, rfl⟩

theorem ev_call (O : OrcOk prog w hB k o) {f : Str} {fp pos : Pos} {as : List Expr} (H : ∀ e ∈ as, EvOk prog w hB k o e) : EvOk prog w hB k o (.Call (.Name f fp) as [] pos) := by
  intro sc env B W r s p A R G S h
  simp only [v_c, v_n, v_bool, v_bin, v_not, v_neg, v_if, v_list, v_tup, v_cmp1, v_cmp2, v_call, v_meth, v_slc, v_sub, v_comp, v_star, v_set, v_setc, v_dictc, v_kw, v_comp0] at h
  obtain ⟨xs, hxs, h⟩ := Option.bind_eq_some_iff.mp h
  split at h
  . rename_i hk
    have hke : env.kindOf f = some .globalImplicit := by rcases S.same f with e | ⟨e, _⟩ <;> rw [hk] at e; exact e; refine' e
    unfold Orc.call at h
    cases hb : bname f with
    | some b =>
      rw [hb] at h
      have hesc : esc (.Call (.Name f fp) as [] pos) = [] := by simp [s_n, s_if, s_bool, s_list, s_tup, s_comp, s_call, s_meth, s_sub, s_bin, s_c, s_cmp, s_un, hb]
      refine Call_Name rfl (wpAny_Name (O.bf f b hb env A NoE _ s S.envs hke S.base ?_) (S.noDebug f _ hk))
      refine callWith_any (bval_form b) hxs (wpAny_mono (evs_ok H R G S hxs) (fun vs s₁ q => ?_) fun y_ y_ e => e)
      refine wpAny_mono (bf_ok (V := VE B env W []) (R.less (Nat.zero_le _)) ((S.ext q.1.heap).laidE _) h q.2) (fun v s₂ q2 => ?_) fun y_ y_ e => e
      exact both (fun y_ y_ => nofun) (q.1.trans q2.1) (by rw [hesc]; exact q2.2)
    | none =>
      rw [hb] at h
      have hesc : esc (.Call (.Name f fp) as [] pos) = esc.escs as := by simp [s_n, s_if, s_bool, s_list, s_tup, s_comp, s_call, s_meth, s_sub, s_bin, s_c, s_cmp, s_un, hb]
      refine cps fun U J => ?_
      obtain ⟨F, ⟨a, ob, fd, hg, ha, hd, hF⟩, hFx⟩ := O.fn f xs p hb h
      refine J ?_; clear J U
      refine Call_Name rfl (wpAny_Name (hg env A NoE _ s S.envs hke S.base ?_) (S.noDebug f _ hk))
      refine callWith_fn (ob := ob) (fd := fd) hxs (wpAny_mono (evs_ok H R G S hxs) (fun vs s₁ q => ?_) fun y_ y_ e => e)
      have S1 := S.ext q.1.heap
      refine ⟨⟨S1.base _ _ ha, hd⟩, ?_⟩
      refine wpAny_mono (hF xs p hFx A (VE B env W (esc.escs as)) s₁ vs R S1.base (S1.laidE _) (fun b v => S1.apart b (VE.less (by simp) b v)) (q.1.gens G) q.2) (fun v s₂ q2 => ?_) fun y_ y_ e => e
      exact both (fun y_ y_ => nofun) (q.1.trans q2.1) (by rw [hesc]; exact q2.2)
  . refine' h

theorem attr_base {e : Expr} {m : Str} (h : methBase e = true) : attributeBase e m env (eval e env) = eval e env := by
  cases e <;> first | rfl | exact bs h
theorem ev_meth {e : Expr} {m : Str} {ap pos : Pos} {as : List Expr} (He : EvOk prog w hB k o e) (H : ∀ e ∈ as, EvOk prog w hB k o e) : EvOk prog w hB k o (.Call (.Attribute e m ap) as [] pos) := by
  intro sc env B W r s p A R G S h
  simp only [v_c, v_n, v_bool, v_bin, v_not, v_neg, v_if, v_list, v_tup, v_cmp1, v_cmp2, v_call, v_meth, v_slc, v_sub, v_comp, v_star, v_set, v_setc, v_dictc, v_kw, v_comp0] at h
  refine cps fun U J => ?_
  obtain ⟨x, hx, h⟩ := Option.bind_eq_some_iff.mp h
  obtain ⟨xs, hxs, h⟩ := Option.bind_eq_some_iff.mp h
  refine J ?_; clear J U
  split at h
  . rename_i hm
    obtain ⟨m', hm', h⟩ := Option.bind_eq_some_iff.mp h
    unfold methOk at hm
    simp only [Bool.and_eq_true, decide_eq_true_eq] at hm
    obtain ⟨⟨hb, hn⟩, hl⟩ := hm
    have hbase := attr_base (m := m) (env := env) hb
    have hform : methodCallForm (as.length + ([] : List Keyword).length) (backTo pos (starEach as env)) (backToKw pos (keywordEach [] env)) = true := by
      unfold methodCallForm
      rw [evs_flags hxs]
      show (true && true && decide (as.length + 0 + 0 < 30)) = true
      simp [hn]
    rw [arm_eval_Call, hbase]
    refine wpAny_bind (wpAny_mono (He sc env B W r s x A R G S hx) (fun ov s₁ q1 => ?_) fun y_ y_ e => e)
    refine wpAny_bind (wpAny_standAt ?_)
    have hpos : methodCallPos true e env ap pos = pure pos := by unfold methodCallPos; simp [hl]
    unfold methodCall
    rw [hform]
    refine wpAny_bind (wpAny_holding (wpAny_mono (getMeth_ok hm' h q1.2.1.v0) (fun fx s₂ q2 => ?_) fun y_ y_ e => e))
    refine cps fun U J => ?_
    obtain ⟨rfl, rfl⟩ := q2
    refine J ?_; clear J U
    refine wpAny_bind (wpAny_of_eq hpos ?_)
    refine callWith_any (.inl ⟨_, rfl⟩) hxs (wpAny_mono (evs_ok H R (q1.1.gens G) (S.ext q1.1.heap) hxs) (fun vs s₃ q3 => ?_) fun y_ y_ e => e)
    refine wpAny_mono (bmeth_ok (V := VE B env W []) (R.less (Nat.zero_le _)) h (q1.2.1.gr q3.1.gr).v0 q3.2.v0) (fun v s₄ q4 => ?_) fun y_ y_ e => e
    exact both (fun y_ y_ => nofun) (q1.1.trans (q3.1.trans q4.1)) (by simp only [s_n, s_if, s_bool, s_list, s_tup, s_comp, s_call, s_meth, s_sub, s_bin, s_c, s_cmp, s_un]; exact q4.2)
  . refine' h

theorem opt_ok {l : Option Expr} {p : PV} (H : ∀ e, l = some e -> EvOk prog w hB k o e) (R : Room k A) (G : AllBare s.gens) (S : St hB B sc env W r s.heap) (h : evOpt o sc l r = some p) :
    wpAny (model prog w) A (evalPart l env) (fun v s' => Ext s s' /\ Rd s'.heap V0 p v) NoE s := by
  cases l with
  | none =>
    simp only [v_o0, v_o1, Option.some.injEq] at h; subst h
    rw [evalPart_none]
    exact wpAny_pure ⟨.refl, rd_none⟩
  | some e =>
    simp only [v_o0, v_o1] at h
    rw [evalPart_some]
    exact wpAny_mono (H e rfl sc env B W r s p A R G S h) (fun v s' q => ⟨q.1, q.2.1.v0⟩) fun y_ y_ e => e

theorem rd_bound {h : Heap} {V V' : Av} {p : PV} {v : Value} {b : Option Int} (e : bound? p = some b) (x : Rd h V p v) : Rd h V' p v := by
  have H := bound_inv e; clear e
  induction H with
  | none => exact x
  | int => exact x

theorem slice_bound {x l u st p : PV} (h : slice x l u st = some p) : (∃ b, bound? l = some b) /\ (∃ b, bound? u = some b) /\ ∃ b, bound? st = some b := by
  cases slice_inv h with
  | lst _ _ _ _ _ _ h1 h2 h3 => exact ⟨⟨_, h1⟩, ⟨_, h2⟩, ⟨_, h3⟩⟩
  | str _ _ _ _ _ _ h1 h2 h3 => exact ⟨⟨_, h1⟩, ⟨_, h2⟩, ⟨_, h3⟩⟩
  | «by» _ _ _ _ _ _ _ h1 h2 h3 => exact ⟨⟨_, h1⟩, ⟨_, h2⟩, ⟨_, h3⟩⟩

theorem ev_slice {e : Expr} {l u st : Option Expr} {q pos : Pos} (He : EvOk prog w hB k o e) (Hl : ∀ e, l = some e -> EvOk prog w hB k o e) (Hu : ∀ e, u = some e -> EvOk prog w hB k o e) (Hs : ∀ e, st = some e -> EvOk prog w hB k o e) :
    EvOk prog w hB k o (.Subscript e (.Slice l u st q) pos) := by
  intro sc env B W r s p A R G S h
  simp only [v_c, v_n, v_bool, v_bin, v_not, v_neg, v_if, v_list, v_tup, v_cmp1, v_cmp2, v_call, v_meth, v_slc, v_sub, v_comp, v_star, v_set, v_setc, v_dictc, v_kw, v_comp0] at h
  refine cps fun U J => ?_
  obtain ⟨x, hx, h⟩ := Option.bind_eq_some_iff.mp h
  obtain ⟨a, ha, h⟩ := Option.bind_eq_some_iff.mp h
  obtain ⟨b, hb, h⟩ := Option.bind_eq_some_iff.mp h
  obtain ⟨c, hc, h⟩ := Option.bind_eq_some_iff.mp h
  obtain ⟨⟨_, b1⟩, ⟨_, b2⟩, ⟨_, b3⟩⟩ := slice_bound h
  refine J ?_; clear J U
  refine Subscript_ (wpAny_mono (He sc env B W r s x A R G S hx) (fun ov s₁ q1 => ?_) fun y_ y_ e => e)
  have S1 := S.ext q1.1.heap
  refine wpAny_Slice (wpAny_mono (opt_ok Hl R (q1.1.gens G) S1 ha) (fun lv s₂ q2 => ?_) fun y_ y_ e => e)
  have S2 := S1.ext q2.1.heap
  refine wpAny_mono (opt_ok Hu R (q2.1.gens (q1.1.gens G)) S2 hb) (fun uv s₃ q3 => ?_) fun y_ y_ e => e
  have S3 := S2.ext q3.1.heap
  refine wpAny_mono (opt_ok Hs R (q3.1.gens (q2.1.gens (q1.1.gens G))) S3 hc) (fun sv s₄ q4 => ?_) fun y_ y_ e => e
  have S4 := S3.ext q4.1.heap
  have e14 := q2.1.trans (q3.1.trans q4.1)
  have e24 := q3.1.trans q4.1
  refine wpAny_mono (slice_ok (V := VE B env W (esc.esc' e)) (S4.laidE _) ⟨l, u, st, q, rfl, fun hn => ?_⟩ h (q1.2.2.mono e14.heap fun y_ y_ y_ e => e) (rd_bound b1 (q2.2.gr e24.gr)) (rd_bound b2 (q3.2.gr q4.1.gr)) (rd_bound b3 q4.2)) (fun v s₅ q5 => ?_) fun y_ y_ e => e
  . subst hn; simp only [v_o0, v_o1, Option.some.injEq] at hc; exact hc.symm
  . exact both (fun y_ y_ => nofun) (q1.1.trans (e14.trans q5.1)) (by simp only [s_n, s_if, s_bool, s_list, s_tup, s_comp, s_call, s_meth, s_sub, s_bin, s_c, s_cmp, s_un]; exact q5.2)

theorem subsc_int {x y p : PV} (h : subsc x y = some p) : ∃ i, y = .int i := by
  cases subsc_inv h with
  | lst => exact ⟨_, rfl⟩
  | tup => exact ⟨_, rfl⟩
  | str => exact ⟨_, rfl⟩

theorem ev_subsc {e i : Expr} {pos : Pos} (hns : ∀ l u st q, i ≠ .Slice l u st q) (He : EvOk prog w hB k o e) (Hi : EvOk prog w hB k o i) : EvOk prog w hB k o (.Subscript e i pos) := by
  intro sc env B W r s p A R G S h
  rw [v_sub hns] at h
  refine cps fun U J => ?_
  obtain ⟨x, hx, h⟩ := Option.bind_eq_some_iff.mp h
  obtain ⟨y, hy, h⟩ := Option.bind_eq_some_iff.mp h
  obtain ⟨j, rfl⟩ := subsc_int h
  refine J ?_; clear J U
  refine Subscript_ (wpAny_mono (He sc env B W r s x A R G S hx) (fun ov s₁ q1 => ?_) fun y_ y_ e => e)
  refine wpAny_mono (Hi sc env B W r s₁ _ A R (q1.1.gens G) (S.ext q1.1.heap) hy) (fun iv s₂ q2 => ?_) fun y_ y_ e => e
  refine wpAny_mono (subsc_ok (V := VE B env W (esc.esc' e)) hns h (q1.2.2.mono q2.1.heap fun y_ y_ y_ e => e) q2.2.1) (fun v s₃ q3 => ?_) fun y_ y_ e => e
  exact both (fun y_ y_ => nofun) (q1.1.trans (q2.1.trans q3.1)) (by
    have : esc (.Subscript e i pos) = esc.esc' e := by simp only [s_n, s_if, s_bool, s_list, s_tup, s_comp, s_call, s_meth, s_sub, s_bin, s_c, s_cmp, s_un]
    rw [this]; exact q3.2)

theorem ev_comp {elt t it : Expr} {ifs : List Expr} {a : Int} {gs : List Comprehension} {pos : Pos} (HE : EvOk prog w hB k o elt)
    (HG : ∀ g ∈ (⟨t, it, ifs, a⟩ :: gs : List Comprehension), EvOk prog w hB k o g.iter /\ ∀ c ∈ g.ifs, TrOk prog w hB k o c) : EvOk prog w hB k o (.ListComp elt (⟨t, it, ifs, a⟩ :: gs) cs pos) := by
  intro sc env B W r s p A R G S h
  have ha : a = 0 := by
    have h2 := h
    simp only [v_c, v_n, v_bool, v_bin, v_not, v_neg, v_if, v_list, v_tup, v_cmp1, v_cmp2, v_call, v_meth, v_slc, v_sub, v_comp, v_star, v_set, v_setc, v_dictc, v_kw, v_comp0] at h2
    refine cps fun U J => ?_
    obtain ⟨x, hx, h2⟩ := Option.bind_eq_some_iff.mp h2
    obtain ⟨ps, hps, h2⟩ := Option.bind_eq_some_iff.mp h2
    refine J ?_; clear J U
    split at h2
    . rename_i hc
      unfold compOk at hc
      simp only [Bool.and_eq_true, decide_eq_true_eq] at hc
      exact hc.1.1.1
    . refine' h2
  subst ha
  rw [arm_eval_ListComp]
  refine comp_core HE HG R G S h fun s' D C l hp e1 rd y_ hC hD hDC hm => ?_
  obtain ⟨m, hn⟩ := hm
  refine ⟨m, hn, fun h' sb => ?_⟩
  have kp : ∀ b o, s.heap.get? b = some o -> h'.get? b = some o := fun b o e => sb.extBut b o (fun q => by cases q.symm; rw [hC] at e; refine' e) (e1.heap b o e)
  refine both (fun y_ y_ => nofun) ⟨kp, e1.os, e1.gens⟩ ?_
  have : esc (.ListComp elt (⟨t, it, ifs, 0⟩ :: gs) cs pos) = esc elt := by simp only [s_n, s_if, s_bool, s_list, s_tup, s_comp, s_call, s_meth, s_sub, s_bin, s_c, s_cmp, s_un]
  rw [this]
  exact rd.mono (fun b o n e => sb.extBut b o (fun q => n (.inr q)) e) fun y_ y_ y_ e => .inl e

theorem vac {e : Expr} (h : ∀ sc r, ev o sc e r = Option.none) : EvOk prog w hB k o e /\ TrOk prog w hB k o e :=
  ⟨fun sc y_ y_ y_ r y_ y_ y_ y_ y_ y_ q => (by rw [h] at q; refine' q), fun sc y_ y_ y_ r y_ y_ y_ y_ y_ y_ y_ q => (by rw [h] at q; refine' q)⟩
theorem ev_tr {e : Expr} (H : EvOk prog w hB k o e) (he : ∀ env whole, isTrue e env whole = (do let v <- whole; standAt e.pos; holding [v] (truthy v))) : EvOk prog w hB k o e /\ TrOk prog w hB k o e :=
  ⟨H, tr_of_ev H he⟩

theorem expr_all (O : OrcOk prog w hB k o) : ∀ (n : Nat) (e : Expr), sizeOf e < n -> EvOk prog w hB k o e /\ TrOk prog w hB k o e := by
  intro n
  induction n with
  | zero => intro e h; exact absurd h (Nat.not_lt_zero _)
  | succ n ih =>
    intro e hs
    have mem : ∀ {es : List Expr}, sizeOf es < n -> ∀ e ∈ es, EvOk prog w hB k o e /\ TrOk prog w hB k o e := fun hl e he => ih e (Nat.lt_trans (List.sizeOf_lt_of_mem he) hl)
    cases e with
    | Constant c j pos => exact ev_tr ev_const fun y_ y_ => rfl
    | Name x pos => exact ev_tr (ev_name O) fun y_ y_ => rfl
    | BoolOp op vs pos =>
      simp only [Expr.BoolOp.sizeOf_spec] at hs
      have H := mem (es := vs) (q2 (s_l hs))
      refine ⟨fun sc env B W r s p A R G S h => ?_, fun sc env B W r s p b A R G S h hb => ?_⟩
      . simp only [v_c, v_n, v_bool, v_bin, v_not, v_neg, v_if, v_list, v_tup, v_cmp1, v_cmp2, v_call, v_meth, v_slc, v_sub, v_comp, v_star, v_set, v_setc, v_dictc, v_kw, v_comp0] at h
        rw [arm_eval_BoolOp]
        refine wpAny_mono (bool_ok (fun e he => (H e he).1) R G S h) (fun v s' q => both (fun y_ y_ => nofun) q.1 (by simp only [s_n, s_if, s_bool, s_list, s_tup, s_comp, s_call, s_meth, s_sub, s_bin, s_c, s_cmp, s_un]; exact q.2)) fun y_ y_ e => e
      . simp only [v_c, v_n, v_bool, v_bin, v_not, v_neg, v_if, v_list, v_tup, v_cmp1, v_cmp2, v_call, v_meth, v_slc, v_sub, v_comp, v_star, v_set, v_setc, v_dictc, v_kw, v_comp0] at h
        exact wpAny_isTrue_BoolOp (all_ok (fun e he => (H e he).2) R G S h hb)
    | BinOp a op b pos =>
      simp only [Expr.BinOp.sizeOf_spec] at hs
      exact ev_tr (ev_bin (ih a (q1 (s_l (s_l (s_l hs))))).1 (ih b (q3 (s_l hs))).1) fun y_ y_ => rfl
    | UnaryOp op a pos =>
      simp only [Expr.UnaryOp.sizeOf_spec] at hs
      have H := ih a (q2 (s_l hs))
      cases op with
      | Not => exact ⟨ev_not H.1, tr_not H.2⟩
      | USub => exact ev_tr (ev_neg H.1) fun y_ y_ => rfl
      | _ => exact vac fun sc r => by rfl
    | IfExp t a b pos =>
      simp only [Expr.IfExp.sizeOf_spec] at hs
      have Ht := ih t (q1 (s_l (s_l (s_l hs))))
      have Ha := ih a (q2 (s_l (s_l hs)))
      have Hb := ih b (q3 (s_l hs))
      exact ⟨ev_if Ht.2 Ha.1 Hb.1, tr_if Ht.2 Ha.2 Hb.2⟩
    | List es pos =>
      simp only [Expr.List.sizeOf_spec] at hs
      exact ev_tr (ev_list fun e he => (mem (q1 (s_l hs)) e he).1) fun y_ y_ => rfl
    | Tuple es j pos =>
      simp only [Expr.Tuple.sizeOf_spec] at hs
      exact ev_tr (ev_tup fun e he => (mem (q1 (s_l (s_l hs))) e he).1) fun y_ y_ => rfl
    | Compare a ops bs pos =>
      simp only [Expr.Compare.sizeOf_spec] at hs
      have Ha := (ih a (q1 (s_l (s_l (s_l hs))))).1
      have Hb := mem (es := bs) (q3 (s_l hs))
      rcases ops with _ | ⟨op, _ | ⟨op', _ | ⟨op'', ops⟩⟩⟩ <;> rcases bs with _ | ⟨b, _ | ⟨b', _ | ⟨b'', bs⟩⟩⟩ <;>
        first
        | exact ⟨ev_cmp1 Ha (Hb b (by simp)).1, tr_cmp1 Ha (Hb b (by simp)).1⟩
        | exact ⟨ev_cmp2 Ha (Hb b (by simp)).1 (Hb b' (by simp)).1, tr_cmp2 Ha (Hb b (by simp)).1 (Hb b' (by simp)).1⟩
        | exact vac fun sc r => by rfl
    | Call f as kws pos =>
      simp only [Expr.Call.sizeOf_spec] at hs
      have H := mem (es := as) (q2 (s_l (s_l hs)))
      cases kws with
      | cons kw kws => exact vac fun sc r => by refine' f <;> rfl
      | nil =>
        cases f with
        | Name x p => exact ev_tr (ev_call O fun e he => (H e he).1) fun y_ y_ => rfl
        | Attribute e m ap =>
          simp only [Expr.Attribute.sizeOf_spec] at hs
          exact ev_tr (ev_meth (ih e (s_r (s_l (s_l (q1 (s_l (s_l (s_l hs)))))))).1 fun e he => (H e he).1) fun y_ y_ => rfl
        | _ => exact vac fun sc r => by rfl
    | Subscript e i pos =>
      simp only [Expr.Subscript.sizeOf_spec] at hs
      have He := (ih e (q1 (s_l (s_l hs)))).1
      by_cases hsl : ∃ l u st q, i = .Slice l u st q
      . refine cps fun U J => ?_
        obtain ⟨l, u, st, q, rfl⟩ := hsl
        refine J ?_; clear J U
        simp only [Expr.Slice.sizeOf_spec] at hs
        refine ev_tr (ev_slice He (fun e h => ?_) (fun e h => ?_) fun e h => ?_) fun y_ y_ => rfl
        all_goals (replace hs := q2 (s_l hs); subst h; simp only [Option.some.sizeOf_spec] at hs)
        . exact (ih e (s_r (s_r (s_l (s_l (s_l hs)))))).1
        . exact (ih e (s_r (s_r (s_l (s_l hs))))).1
        . exact (ih e (s_r (s_r (s_l hs)))).1
      . exact ev_tr (ev_subsc (fun l u st q h => hsl ⟨l, u, st, q, h⟩) He (ih i (q2 (s_l hs))).1) fun y_ y_ => rfl
    | ListComp elt gens cs pos =>
      simp only [Expr.ListComp.sizeOf_spec] at hs
      cases gens with
      | nil => exact vac fun sc r => by rfl
      | cons g gs =>
        refine cps fun U J => ?_
        obtain ⟨t, it, ifs, a⟩ := g
        refine J ?_; clear J U
        refine ev_tr (ev_comp (ih elt (q1 (s_l (s_l (s_l hs))))).1 fun g' hg => ?_) fun y_ y_ => rfl
        have hl := Nat.lt_trans (List.sizeOf_lt_of_mem hg) (q2 (s_l (s_l hs)))
        have h2 : sizeOf g' = 1 + sizeOf g'.target + sizeOf g'.iter + sizeOf g'.ifs + sizeOf g'.is_async := by refine' g'; simp
        rw [h2] at hl
        exact ⟨(ih g'.iter (s_r (s_l (s_l hl)))).1, fun c hc => (mem (es := g'.ifs) (s_r (s_l hl)) c hc).2⟩
    | _ => exact vac fun sc r => by rfl

theorem expr_ok (O : OrcOk prog w hB k o) (e : Expr) : EvOk prog w hB k o e := (expr_all O _ e (Nat.lt_succ_self _)).1
theorem test_ok (O : OrcOk prog w hB k o) (e : Expr) : TrOk prog w hB k o e := (expr_all O _ e (Nat.lt_succ_self _)).2
end
end

section
open PySem PyProof.Rows

section
variable {prog : Program} {w : World} {A : Around} {s s' s'' : Shared} {hB hE : Heap} {B : Av} {sc cs : Scope} {env : Env} {W W' W'' : Own} {r r' : Internal.Loc} {o : Orc} {k : Nat}

noncomputable def Mut (sc : Scope) (env : Env) (W : Own) : Av := fun b => Put sc env b \/ ∃ x, W x = some b

structure Step (sc : Scope) (env : Env) (W W' : Own) (s s' : Shared) : Prop where
  kept : ∀ b o, ¬ Mut sc env W b -> s.heap.get? b = some o -> s'.heap.get? b = some o
  alive : ∀ b o, s.heap.get? b = some o -> ∃ o', s'.heap.get? b = some o'
  os : s'.os = s.os
  gens : AllBare s.gens -> AllBare s'.gens
  grow : ∀ x a, W' x = some a -> W x = some a \/ s.heap.get? a = Option.none

theorem Step.of_ext (e : Ext s s') : Step sc env W W s s' := ⟨fun b o y_ q => e.heap b o q, fun b o q => ⟨o, e.heap b o q⟩, e.os, e.gens, fun y_ y_ q => .inl q⟩
theorem Step.trans (a : Step sc env W W' s s') (b : Step sc env W' W'' s' s'') : Step sc env W W'' s s'' := by
  refine ⟨fun x o n e => b.kept x o (fun m => ?_) (a.kept x o n e), fun x o e => let ⟨o', e'⟩ := a.alive x o e; b.alive x o' e', b.os.trans a.os, fun g => b.gens (a.gens g), fun x c e => ?_⟩
  . rcases m with m | ⟨y, e'⟩
    . exact n (.inl m)
    . rcases a.grow y x e' with q | q
      . exact n (.inr ⟨y, q⟩)
      . rw [q] at e; refine' e
  . rcases b.grow x c e with q | q
    . exact a.grow x c q
    . cases e' : s.heap.get? c with
      | none => exact .inr rfl
      | some ob => obtain ⟨o', e2⟩ := a.alive c ob e'; rw [q] at e2; refine' e2

theorem Step.sub (a : Step sc env W W' s s') (h : ∀ x b, W'' x = some b -> W' x = some b) : Step sc env W W'' s s' := ⟨a.kept, a.alive, a.os, a.gens, fun x c e => a.grow x c (h x c e)⟩
theorem Step.drop (h : ∀ x b, W' x = some b -> W x = some b) : Step sc env W W' s s := ⟨fun y_ y_ y_ e => e, fun y_ o e => ⟨o, e⟩, rfl, fun g => g, fun x a e => .inl (h x a e)⟩
theorem Step.of_bound {r1 : Internal.Loc} (e : Bound hE hB B sc env W r1 s s') : Step sc env W W s s' := by
  refine ⟨fun b o n q => e.kept b o (fun p => n (.inl p)) q, fun b o q => ?_, e.os, e.gens, fun y_ y_ q => .inl q⟩
  by_cases hp : Put sc env b
  . exact e.st.laid b (by
      rcases hp with rfl | ⟨x, _, q⟩
      . exact .inr (.inl rfl)
      . exact .inr (.inr (.inl ⟨x, q⟩)))
  . exact ⟨o, e.kept b o hp q⟩

theorem mut_ve {b : Addr} (h : Mut sc env W b) : VE B env W [] b := by
  rcases h with h | ⟨x, e⟩
  . exact put_ve h
  . exact .inr (.inr (.inr ⟨x, by simp, e⟩))

structure Live (hE hB : Heap) (B : Av) (sc : Scope) (env : Env) (W : Own) (r : Internal.Loc) (s : Shared) : Prop where
  st : St hB B sc env W r s.heap
  ent : ∀ b o, hE.get? b = some o -> s.heap.get? b = some o
  new : ∀ x a, W x = some a -> hE.get? a = Option.none
  bare : AllBare s.gens

theorem Live.next (L : Live hE hB B sc env W r s) (T : StorL hE sc env) (a : Step sc env W W' s s') (S : St hB B sc env W' r' s'.heap) : Live hE hB B sc env W' r' s' := by
  refine ⟨S, fun b o e => a.kept b o (fun m => ?_) (L.ent b o e), fun x c e => ?_, a.gens L.bare⟩
  . rcases m with (rfl | ⟨x, hk, q⟩) | ⟨x, q⟩
    . rw [T.newL] at e; refine' e
    . rw [T.newC x b hk q] at e; refine' e
    . rw [L.new x b q] at e; refine' e
  . rcases a.grow x c e with q | q
    . exact L.new x c q
    . cases e' : hE.get? c with
      | none => rfl
      | some ob => have := L.ent c ob e'; rw [q] at this; refine' this

noncomputable def Wm (W : Own) (xs : List Str) : Own := fun y => if y ∈ xs then Option.none else W y
theorem wm_some {xs : List Str} {y : Str} {a : Addr} (h : Wm W xs y = some a) : y ∉ xs /\ W y = some a := by
  unfold Wm at h
  split at h
  . refine' h
  . rename_i hn; exact ⟨hn, h⟩
theorem ve_wm {xs : List Str} {b : Addr} : VE B env (Wm W xs) [] b ↔ VE B env W xs b := by
  constructor
  . rintro (v | v | v | ⟨x, _, e⟩)
    . exact .inl v
    . exact .inr (.inl v)
    . exact .inr (.inr (.inl v))
    . obtain ⟨h1, h2⟩ := wm_some e; exact .inr (.inr (.inr ⟨x, h1, h2⟩))
  . rintro (v | v | v | ⟨x, hx, e⟩)
    . exact .inl v
    . exact .inr (.inl v)
    . exact .inr (.inr (.inl v))
    . exact .inr (.inr (.inr ⟨x, by simp, by simp [Wm, hx, e]⟩))

theorem St.own_rd {h : Heap} (S : St hB B sc env W r h) {xs : List Str} {x : Str} {l : List PV} {v : Value} (hx : x ∈ xs) (q : Sl h (VE B env W []) W x (.own l) v) : Rd h (VE B env W xs) (.lst l) v := by
  obtain ⟨a, vs, rfl, e2, pl, r1⟩ := q
  have l1 := pl.isList
  have nd : NoDict h a := let ⟨n, e⟩ := pl; ⟨_, e, rfl⟩
  have hw := S.own x a e2
  refine Exists.intro (a) ⟨vs, rfl, ⟨fun v => ?_, nd⟩, l1, r1.less (VE.less (by simp))⟩
  rcases v with v | v | ⟨y, v⟩ | ⟨y, hy, e⟩
  . exact hw.1 v
  . exact hw.2.1 v
  . exact hw.2.2.1 y v
  . exact hy (by rw [hw.2.2.2 y e]; exact hx)

theorem St.frz {h : Heap} (S : St hB B sc env W r h) (xs : List Str) : St hB B sc env (Wm W xs) (frz xs r) h := by
  have ve : ∀ b, VE B env (Wm W xs) [] b -> VE B env W [] b := fun b v => VE.less (by simp) b (ve_wm.mp v)
  have mv : ∀ {y sl v}, Internal.frz xs r y = some sl -> (∀ sl0, r y = some sl0 -> Sl h (VE B env W []) W y sl0 v) -> Sl h (VE B env (Wm W xs) []) (Wm W xs) y sl v := by
    intro y sl v e q
    unfold Internal.frz at e
    split at e
    . rename_i hy
      obtain ⟨sl0, e0, rfl⟩ := Option.map_eq_some_iff.mp e
      have := q sl0 e0
      cases sl0 with
      | pv p => exact Rd.less this ve
      | own l => exact (S.own_rd hy this).less fun b => ve_wm.mp
    . rename_i hy
      exact (q sl e).mono (fun b o y_ e => e) (fun b o y_ v => ve b v) (by simp [Wm, hy])
  have bound : ∀ {y sl}, Internal.frz xs r y = some sl -> ∃ sl0, r y = some sl0 := by
    intro y sl e
    unfold Internal.frz at e
    split at e
    . obtain ⟨sl0, e0, _⟩ := Option.map_eq_some_iff.mp e; exact ⟨sl0, e0⟩
    . exact ⟨sl, e⟩
  refine ⟨S.envs, S.same, S.noClass, S.noDebug, S.base, fun b v => S.laid b (ve b v), fun b v => S.apart b (ve b v), fun x a hx => ?_, ?_, ?_⟩
  . refine cps fun U J => ?_
    obtain ⟨_, hx⟩ := wm_some hx
    obtain ⟨h1, h2, h3, h4⟩ := S.own x a hx
    refine J ?_; clear J U
    exact ⟨h1, h2, h3, fun y hy => h4 y (wm_some hy).2⟩
  . obtain ⟨m, hn, q⟩ := S.loc
    refine ⟨m, hn, fun x sl hk e => ?_⟩
    refine cps fun U J => ?_
    obtain ⟨sl0, e0⟩ := bound e
    obtain ⟨v, h1, h2⟩ := q x sl0 hk e0
    refine J ?_; clear J U
    exact ⟨v, h1, mv e fun sl1 e1 => by rw [e0] at e1; refine' e1; exact h2⟩
  . intro x hk
    refine cps fun U J => ?_
    obtain ⟨c, h1, vo, h2, q⟩ := S.cel x hk
    refine J ?_; clear J U
    refine ⟨c, h1, vo, h2, fun sl e => ?_⟩
    refine cps fun U J => ?_
    obtain ⟨sl0, e0⟩ := bound e
    obtain ⟨v, h3, h4⟩ := q sl0 e0
    refine J ?_; clear J U
    exact ⟨v, h3, mv e fun sl1 e1 => by rw [e0] at e1; refine' e1; exact h4⟩

theorem St.take {h : Heap} {a : Addr} {x : Str} (S : St hB (fun b => B b \/ b = a) sc env W r h) (hB' : ¬ B a) (hL : a ≠ env.locals) (hC : ∀ y, env.cells.lookup y ≠ some a) (hW : ∀ y, W y ≠ some a) :
    St hB B sc env (fun y => if y = x then some a else W y) (fun y => if y = x then Option.none else r y) h := by
  have ve : ∀ b, VE B env (fun y => if y = x then some a else W y) [] b -> VE (fun b => B b \/ b = a) env W [] b := by
    rintro b (v | v | v | ⟨y, _, e⟩)
    . exact .inl (.inl v)
    . exact .inr (.inl v)
    . exact .inr (.inr (.inl v))
    . dsimp only at e
      split at e
      . refine' e; exact .inl (.inr rfl)
      . exact .inr (.inr (.inr ⟨y, by simp, e⟩))
  have mv : ∀ {y sl v}, y ≠ x -> Sl h (VE (fun b => B b \/ b = a) env W []) W y sl v -> Sl h (VE B env (fun y => if y = x then some a else W y) []) (fun y => if y = x then some a else W y) y sl v := fun hy q =>
    q.mono (fun b o y_ e => e) (fun b o y_ v => ve b v) (by simp [hy])
  refine ⟨S.envs, S.same, S.noClass, S.noDebug, S.base, fun b v => S.laid b (ve b v), fun b v => S.apart b (ve b v), fun y c e => ?_, ?_, ?_⟩
  . skip
    split at e
    . rename_i hy; subst hy; refine' e
      refine ⟨hB', hL, hC, fun z ez => ?_⟩
      skip
      split at ez
      . assumption
      . exact absurd ez (hW z)
    . rename_i hy
      refine cps fun U J => ?_
      obtain ⟨h1, h2, h3, h4⟩ := S.own y c e
      refine J ?_; clear J U
      refine ⟨fun q => h1 (.inl q), h2, h3, fun z ez => ?_⟩
      skip
      split at ez
      . refine' ez; exact absurd e (hW y)
      . exact h4 z ez
  . obtain ⟨m, hn, q⟩ := S.loc
    refine ⟨m, hn, fun y sl hk e => ?_⟩
    skip
    split at e
    . refine' e
    . rename_i hy
      obtain ⟨v, h1, h2⟩ := q y sl hk e
      exact ⟨v, h1, mv hy h2⟩
  . intro y hk
    refine cps fun U J => ?_
    obtain ⟨c, h1, vo, h2, q⟩ := S.cel y hk
    refine J ?_; clear J U
    refine ⟨c, h1, vo, h2, fun sl e => ?_⟩
    skip
    split at e
    . refine' e
    . rename_i hy
      obtain ⟨v, h3, h4⟩ := q sl e
      exact ⟨v, h3, mv hy h4⟩
end
end

section
open PySem PyProof.Rows

section
variable {prog : Program} {w : World} {A : Around} {s s' s'' : Shared} {hB hE : Heap} {B : Av} {sc cs : Scope} {env : Env} {W W' W'' : Own} {r r' : Internal.Loc} {o : Orc} {k : Nat}

inductive TV (h : Heap) (V : Av) : List Expr -> List PV -> List Value -> List Addr -> Prop
  | nil : TV h V [] [] [] []
  | own (e : Expr) (es : List Expr) (p : PV) (ps : List PV) (vs : List Value) (a : Addr) (as : List Addr) (he : emp e = true) (pl : h.PlainList a #[]) (t : TV h V es ps vs as) : TV h V (e :: es) (p :: ps) (.ref a :: vs) (a :: as)
  | pv (e : Expr) (es : List Expr) (p : PV) (ps : List PV) (v : Value) (vs : List Value) (as : List Addr) (he : ¬ emp e = true) (rd : Rd h V p v) (t : TV h V es ps vs as) : TV h V (e :: es) (p :: ps) (v :: vs) as

theorem TV.mono {h h' : Heap} {V V' : Av} {es : List Expr} {ps : List PV} {vs : List Value} {as : List Addr} (x : TV h V es ps vs as) (g : Gr V h h') (k : ∀ b o, h.get? b = some o -> V' b -> V b)
    (ka : ∀ a ∈ as, ∀ o, h.get? a = some o -> h'.get? a = some o) : TV h' V' es ps vs as := by
  induction x with
  | nil => exact .nil
  | own e es p ps vs a as he pl t ih => exact .own e es p ps vs a as he (pl.at fun o e => ka a List.mem_cons_self o e) (ih fun a ha => ka a (List.mem_cons_of_mem _ ha))
  | pv e es p ps v vs as he rd t ih => exact .pv e es p ps v vs as he (rd.mono g k) (ih ka)
theorem TV.len {h : Heap} {V : Av} {es : List Expr} {ps : List PV} {vs : List Value} {as : List Addr} (x : TV h V es ps vs as) : vs.length = ps.length := by
  induction x with
  | nil => rfl
  | own _ _ _ _ _ _ _ _ _ _ ih => exact congrArg Nat.succ ih
  | pv _ _ _ _ _ _ _ _ _ _ ih => exact congrArg Nat.succ ih
theorem TV.nils {h : Heap} {V : Av} {vs : List Value} {as : List Addr} (x : TV h V [] [] vs as) : vs = [] /\ as = [] := by
  refine' x; exact ⟨rfl, rfl⟩
theorem TV.cons {h : Heap} {V : Av} {e : Expr} {es : List Expr} {p : PV} {ps : List PV} {vs : List Value} {as : List Addr} (x : TV h V (e :: es) (p :: ps) vs as) :
    (emp e = true /\ ∃ a vs' as', vs = .ref a :: vs' /\ as = a :: as' /\ h.PlainList a #[] /\ TV h V es ps vs' as') \/ (¬ emp e = true /\ ∃ v vs', vs = v :: vs' /\ Rd h V p v /\ TV h V es ps vs' as) := by
  cases x with
  | own _ _ _ _ vs a as he pl t => exact .inl ⟨he, a, vs, as, rfl, rfl, pl, t⟩
  | pv _ _ _ _ v vs _ he rd t => exact .inr ⟨he, v, vs, rfl, rd, t⟩

theorem emp_is {e : Expr} : emp e = true -> ∃ q, e = .List [] q := by
  cases e with
  | List es q => cases es with
    | nil => exact fun y_ => ⟨q, rfl⟩
    | cons => exact bs
  | _ => exact bs

theorem evsO_ok {pos : Pos} : ∀ {es : List Expr} {ps : List PV} {s : Shared} {B : Av}, (∀ e ∈ es, EvOk prog w hB k o e) -> Room k A -> AllBare s.gens -> St hB B sc env W r s.heap -> evs o sc es r = some ps ->
    wpAny (model prog w) A (spliced (backTo pos (starEach es env))) (fun vs s' => Ext s s' /\ ∃ as : List Addr, (∀ a ∈ as, s.heap.get? a = Option.none /\ ∃ o, s'.heap.get? a = some o) /\ as.Nodup /\
      TV s'.heap (fun b => VE B env W (esc.escs es) b \/ b ∈ as) es ps vs as) NoE s
  | [], ps, s, B, _, _, _, _, h => by
    simp only [v_s0, v_ss, v_s1, Option.some.injEq] at h; subst h
    exact wpAny_items_nil ⟨.refl, [], by simp, by simp, .nil⟩
  | e :: es, ps, s, B, H, R, G, S, h => by
    refine cps fun U J => ?_
    obtain ⟨hn, x, xs, h1, h2, rfl⟩ := evs_cons h
    refine J ?_; clear J U
    have sub1 : ∀ y ∈ esc e, y ∈ esc.escs (e :: es) := fun y hy => by rw [s_1]; exact List.mem_append_left _ hy
    have sub2 : ∀ y ∈ esc.escs es, y ∈ esc.escs (e :: es) := fun y hy => by rw [s_1]; exact List.mem_append_right _ hy
    refine wpAny_items_cons ?_ (starEach_plain hn)
    by_cases he : emp e = true
    . obtain ⟨q, rfl⟩ := emp_is he
      have hx : x = .lst [] := by
        simp only [v_c, v_n, v_bool, v_bin, v_not, v_neg, v_if, v_list, v_tup, v_cmp1, v_cmp2, v_call, v_meth, v_slc, v_sub, v_comp, v_star, v_set, v_setc, v_dictc, v_kw, v_comp0, v_s0, v_ss, v_s1] at h1
        simpa using h1.symm
      subst hx
      refine wpAny_List (wpAny_items_nil ⟨by simp [sizeLine], ?_⟩)
      generalize hH : s.heap.push { cls := .type "list", data := .seq ([] : List Value).toArray } = H1
      have e1 : ∀ b o, s.heap.get? b = some o -> H1.get? b = some o := fun b o e => by rw [<- hH]; exact Heap.get?_push_of_some _ e
      have pl : H1.PlainList s.heap.objs.size #[] := ⟨_, by rw [<- hH]; exact Heap.get?_push_size _ rfl⟩
      have nw : s.heap.get? s.heap.objs.size = Option.none := size_free _
      generalize s.heap.objs.size = D at pl nw ⊢
      have S1 : St hB (fun b => B b \/ b = D) sc env W r H1 := S.more e1 fun b hb => by subst hb; exact ⟨nw, let ⟨n, e⟩ := pl; ⟨_, e⟩⟩
      refine wpAny_mono (evsO_ok (s := { s with heap := H1 }) (fun e he => H e (List.mem_cons_of_mem _ he)) R G S1 h2) (fun vs s₂ q2 => ?_) fun y_ y_ e => e
      refine cps fun U J => ?_
      obtain ⟨e2, as, hn, hd, tv⟩ := q2
      refine J ?_; clear J U
      have hDas : D ∉ as := fun hm => by
        have := (hn D hm).1
        obtain ⟨n, e⟩ := pl
        rw [e] at this; refine' this
      refine ⟨⟨fun b o e => e2.heap b o (e1 b o e), e2.os, e2.gens⟩, D :: as, ?_, List.nodup_cons.mpr ⟨hDas, hd⟩, ?_⟩
      . intro a ha
        rcases List.mem_cons.mp ha with rfl | ha
        . exact ⟨nw, let ⟨n, e⟩ := pl; ⟨_, e2.heap _ _ e⟩⟩
        . obtain ⟨a1, a2⟩ := hn a ha
          refine ⟨?_, a2⟩
          cases q : s.heap.get? a with
          | none => rfl
          | some o => rw [e1 a o q] at a1; refine' a1
      . refine .own _ _ _ _ _ D as he (pl.at fun o e => e2.heap _ _ e) (tv.mono Gr.refl (fun b o y_ v => ?_) fun y_ y_ y_ e => e)
        rcases v with (v | v | v | ⟨x, hx, v⟩) | v
        . exact .inl (.inl (.inl v))
        . exact .inl (.inr (.inl v))
        . exact .inl (.inr (.inr (.inl v)))
        . exact .inl (.inr (.inr (.inr ⟨x, fun hm => hx (sub2 x hm), v⟩)))
        . rcases List.mem_cons.mp v with rfl | v
          . exact .inl (.inl (.inr rfl))
          . exact .inr v
    . refine wpAny_mono (H e List.mem_cons_self sc env B W r s x A R G S h1) (fun v s₁ q => ?_) fun y_ y_ e => e
      obtain ⟨e1, rd, _⟩ := q
      refine wpAny_mono (evsO_ok (fun e he => H e (List.mem_cons_of_mem _ he)) R (e1.gens G) (S.ext e1.heap) h2) (fun vs s₂ q2 => ?_) fun y_ y_ e => e
      refine cps fun U J => ?_
      obtain ⟨e2, as, hn, hd, tv⟩ := q2
      refine J ?_; clear J U
      refine ⟨e1.trans e2, as, fun a ha => ?_, hd, ?_⟩
      . obtain ⟨a1, a2⟩ := hn a ha
        refine ⟨?_, a2⟩
        cases q : s.heap.get? a with
        | none => rfl
        | some o => rw [e1.heap a o q] at a1; refine' a1
      . refine .pv _ _ _ _ _ _ _ he (rd.mono e2.gr fun b o ho v => ?_) (tv.mono Gr.refl (fun b o y_ v => ?_) fun y_ y_ y_ e => e)
        . rcases v with v | v
          . exact VE.less sub1 b v
          . rw [(hn b v).1] at ho; refine' ho
        . rcases v with v | v
          . exact .inl (VE.less sub2 b v)
          . exact .inr v

theorem bindEach_len {ts es : List Expr} {ps : List PV} {r r' : Internal.Loc} (h : bindEach sc ts es ps r = some r') : ts.length = ps.length /\ ∀ t ∈ ts, ∃ x q, t = .Name x q := by
  have H := bes h; clear h
  induction H with
  | nil => exact ⟨rfl, fun t ht => nomatch ht⟩
  | cons x q ts e es p ps r r' hx h ih => exact ⟨congrArg Nat.succ ih.1, List.forall_mem_cons.mpr ⟨⟨x, q, rfl⟩, ih.2⟩⟩

structure Stored (hE hB : Heap) (B : Av) (sc : Scope) (env : Env) (W : Own) (as : List Addr) (r' : Internal.Loc) (s s' : Shared) : Prop where
  st : ∃ W', St hB B sc env W' r' s'.heap /\ ∀ x a, W' x = some a -> W x = some a \/ a ∈ as
  ent : ∀ b o, hE.get? b = some o -> s'.heap.get? b = some o
  kept : ∀ b o, ¬ Put sc env b -> s.heap.get? b = some o -> s'.heap.get? b = some o
  os : s'.os = s.os
  gens : AllBare s.gens -> AllBare s'.gens

theorem bindEach_ok (T : StorL hE sc env) {ts es : List Expr} {ps : List PV} {vs : List Value} {as : List Addr} {r r' : Internal.Loc} {s : Shared} {W : Own} (h : bindEach sc ts es ps r = some r') (S : St hB (fun b => B b \/ b ∈ as) sc env W r s.heap)
    (tv : TV s.heap (VE (fun b => B b \/ b ∈ as) env W []) es ps vs as) (nd : as.Nodup) (fr : ∀ a ∈ as, ¬ B a /\ a ≠ env.locals /\ (∀ y, env.cells.lookup y ≠ some a) /\ ∀ y, W y ≠ some a) (en : ∀ b o, hE.get? b = some o -> s.heap.get? b = some o) :
    wpAny (model prog w) A (assignInOrder ((assignEach ts env).map (·.2)) vs) (fun y_ s' => Stored hE hB B sc env W as r' s s') NoE s := by
  have H := bes h; clear h
  induction H generalizing vs as s W with
  | nil r =>
    refine cps fun U J => ?_
    obtain ⟨rfl, rfl⟩ := tv.nils
    refine J ?_; clear J U
    exact wpAny_pure ⟨⟨W, S.lessB fun b v => .inl v, fun x a e => .inl e⟩, en, fun y_ y_ y_ e => e, rfl, fun g => g⟩
  | cons x q ts e es p ps r r' hx h ih =>
    rcases tv.cons with ⟨he, a, vs, as, rfl, rfl, pl, tv⟩ | ⟨he, v, vs, rfl, rd, tv⟩
    . rw [if_pos he] at ih
      show wpAny _ A (do holding vs (assign (.Name x q) env (.ref a)); assignInOrder ((assignEach ts env).map (·.2)) vs) _ _ s
      refine cps fun U J => ?_
      obtain ⟨f1, f2, f3, f4⟩ := fr a List.mem_cons_self
      obtain ⟨ha, nd'⟩ := List.nodup_cons.mp nd
      refine J ?_; clear J U
      have S1 := St.take (x := x) (B := fun b => B b \/ b ∈ as) (S.lessB (B' := fun b => (B b \/ b ∈ as) \/ b = a) (by
        rintro b ((v | v) | v)
        . exact .inl v
        . exact .inr (List.mem_cons_of_mem _ v)
        . exact .inr (v ▸ List.mem_cons_self))) (by rintro (v | v); exact f1 v; exact ha v) f2 f3 f4
      refine wpAny_bind (wpAny_holding (PySem.wpAny_assign_Name (wpAny_mono (store_ok (r := r) T hx S1 (sl := .own []) ⟨a, #[], rfl, by simp, pl, by simp⟩ en) (fun y_ s₁ q1 => ?_) fun y_ y_ e => e.elim)))
      refine cps fun U J => ?_
      obtain ⟨S2, en2, kp, ho, hg⟩ := q1
      refine J ?_; clear J U
      have kp' : ∀ b o, ¬ VE (fun b => B b \/ b ∈ a :: as) env W [] b -> s.heap.get? b = some o -> s₁.heap.get? b = some o := fun b o n e => kp b o (fun p => n (put_ve p)) e
      have tv2 : TV s₁.heap (VE (fun b => B b \/ b ∈ as) env (fun y => if y = x then some a else W y) []) es ps vs as := by
        refine tv.mono kp' (fun b o y_ v => ?_) fun b hb o e => kp b o (fun p => ?_) e
        . rcases v with (v | v) | v | v | ⟨y, _, v⟩
          . exact .inl (.inl v)
          . exact .inl (.inr (List.mem_cons_of_mem _ v))
          . exact .inr (.inl v)
          . exact .inr (.inr (.inl v))
          . dsimp only at v
            split at v
            . refine' v; exact .inl (.inr List.mem_cons_self)
            . exact .inr (.inr (.inr ⟨y, by simp, v⟩))
        . refine cps fun U J => ?_
          obtain ⟨_, g2, g3, _⟩ := fr b (List.mem_cons_of_mem _ hb)
          refine J ?_; clear J U
          rcases p with rfl | ⟨x, _, e⟩
          . exact g2 rfl
          . exact g3 x e
      refine wpAny_mono (ih S2 tv2 nd' (fun b hb => ?_) en2) (fun y_ s₂ q2 => ?_) fun y_ y_ e => e.elim
      . refine cps fun U J => ?_
        obtain ⟨g1, g2, g3, g4⟩ := fr b (List.mem_cons_of_mem _ hb)
        refine J ?_; clear J U
        refine ⟨g1, g2, g3, fun y => ?_⟩
        split
        . rintro e; refine' e; exact ha hb
        . exact g4 y
      . refine cps fun U J => ?_
        obtain ⟨⟨W', S3, g⟩, en3, kp3, ho3, hg3⟩ := q2
        refine J ?_; clear J U
        refine ⟨⟨W', S3, fun y b e => ?_⟩, en3, fun b o n e => kp3 b o n (kp b o n e), ho3.trans ho, fun gg => hg3 (by rw [hg]; exact gg)⟩
        rcases g y b e with q | q
        . split at q
          . refine' q; exact .inr List.mem_cons_self
          . exact .inl q
        . exact .inr (List.mem_cons_of_mem _ q)
    . rw [if_neg he] at ih
      show wpAny _ A (do holding vs (assign (.Name x q) env v); assignInOrder ((assignEach ts env).map (·.2)) vs) _ _ s
      refine wpAny_bind (wpAny_holding (PySem.wpAny_assign_Name (wpAny_mono (put_pv T hx S rd en) (fun y_ s₁ b1 => ?_) fun y_ y_ e => e.elim)))
      have tv2 : TV s₁.heap (VE (fun b => B b \/ b ∈ as) env W []) es ps vs as := by
        refine tv.mono (fun b o n e => b1.kept b o (fun p => n (put_ve p)) e) (fun b o y_ v => v) fun b hb o e => b1.kept b o (fun p => ?_) e
        refine cps fun U J => ?_
        obtain ⟨_, g2, g3, _⟩ := fr b hb
        refine J ?_; clear J U
        rcases p with rfl | ⟨x, _, e⟩
        . exact g2 rfl
        . exact g3 x e
      refine wpAny_mono (ih b1.st tv2 nd fr b1.entry) (fun y_ s₂ q2 => ?_) fun y_ y_ e => e.elim
      exact ⟨q2.st, q2.ent, fun b o n e => q2.kept b o n (b1.kept b o n e), q2.os.trans b1.os, fun g => q2.gens (b1.gens g)⟩
end
end

section
open PySem PyProof.Rows

section
variable {prog : Program} {w : World} {A : Around} {s s' s'' : Shared} {hB hE : Heap} {B : Av} {sc cs : Scope} {env : Env} {W W' W'' : Own} {r r' : Internal.Loc} {o : Orc} {k : Nat}

noncomputable def OutP (hB : Heap) (B : Av) (sc : Scope) (env : Env) (W : Own) (s : Shared) : Out -> Flow -> Shared -> Prop
  | .next r', f, s' => f = .next /\ ∃ W', St hB B sc env W' r' s'.heap /\ Step sc env W W' s s'
  | .ret p, f, s' => ∃ v, f = .ret v /\ Rd s'.heap B p v /\ Step sc env W W s s'

noncomputable def ExOk (prog : Program) (w : World) (hB : Heap) (k : Nat) (o : Orc) (st : Stmt) : Prop :=
  ∀ (sc : Scope) (env : Env) (B : Av) (hE : Heap) (W : Own) (r : Internal.Loc) (s : Shared) (out : Out) (A : Around), Room k A -> StorL hE sc env -> Live hE hB B sc env W r s -> Internal.exec o sc st r = some out ->
    wpAny (model prog w) A (PySem.exec st env) (OutP hB B sc env W s out) NoE s
noncomputable def ExsOk (prog : Program) (w : World) (hB : Heap) (k : Nat) (o : Orc) (st : List Stmt) : Prop :=
  ∀ (sc : Scope) (env : Env) (B : Av) (hE : Heap) (W : Own) (r : Internal.Loc) (s : Shared) (out : Out) (A : Around), Room k A -> StorL hE sc env -> Live hE hB B sc env W r s -> Internal.execs o sc st r = some out ->
    wpAny (model prog w) A (PySem.execs st env) (OutP hB B sc env W s out) NoE s

theorem OutP.after {out : Out} {f : Flow} (a : Step sc env W W' s s') (q : OutP hB B sc env W' s' out f s'') : OutP hB B sc env W s out f s'' := by
  cases out with
  | next r' => obtain ⟨h1, W2, h2, h3⟩ := q; exact ⟨h1, W2, h2, a.trans h3⟩
  | ret p =>
    obtain ⟨v, h1, h2, h3⟩ := q
    have t := a.trans h3
    exact ⟨v, h1, h2, ⟨t.kept, t.alive, t.os, t.gens, fun y_ y_ e => .inl e⟩⟩

theorem exs_nil : ExsOk prog w hB k o [] := by
  intro sc env B hE W r s out A R T L h
  simp only [w_nil, w_cons, Option.some.injEq] at h; subst h
  exact wpAny_execs_nil ⟨rfl, W, L.st, Step.drop fun y_ y_ e => e⟩

theorem exs_cons {st : Stmt} {rest : List Stmt} (H : ExOk prog w hB k o st) (Hr : ExsOk prog w hB k o rest) : ExsOk prog w hB k o (st :: rest) := by
  intro sc env B hE W r s out A R T L h
  simp only [w_nil, w_cons] at h
  refine wpAny_execs_cons ?_
  cases e : Internal.exec o sc st r with
  | none => rw [e] at h; refine' h
  | some out1 =>
    refine wpAny_mono (H sc env B hE W r s out1 A R T L e) (fun f s₁ q => ?_) fun y_ y_ e => e
    cases out1 with
    | next r1 =>
      rw [e] at h
      obtain ⟨rfl, W1, S1, st1⟩ := q
      exact wpAny_mono (Hr sc env B hE W1 r1 s₁ out A R T (L.next T st1 S1) h) (fun f s₂ q2 => OutP.after st1 q2) fun y_ y_ e => e
    | ret p =>
      rw [e] at h
      refine' h
      obtain ⟨v, rfl, rd, st1⟩ := q
      exact ⟨v, rfl, rd, st1⟩

theorem ex_return (O : OrcOk prog w hB k o) {e : Expr} {pos : Pos} : ExOk prog w hB k o (.Return (some e) pos) := by
  intro sc env B hE W r s out A R T L h
  simp only [w_ret, w_asg, w_aug, w_if, w_while, w_for, w_app] at h
  obtain ⟨p, hp, rfl⟩ := Option.map_eq_some_iff.mp h
  refine wpAny_Return_some (wpAny_mono (expr_ok O e sc env B W r s p A R L.bare L.st hp) (fun v s₁ q => ?_) fun y_ y_ e => e)
  exact ⟨v, rfl, q.2.1.less fun b v => .inl v, Step.of_ext q.1⟩

theorem ex_if (O : OrcOk prog w hB k o) {t : Expr} {a b : List Stmt} {pos : Pos} (Ha : ExsOk prog w hB k o a) (Hb : ExsOk prog w hB k o b) : ExOk prog w hB k o (.If t a b pos) := by
  intro sc env B hE W r s out A R T L h
  simp only [w_ret, w_asg, w_aug, w_if, w_while, w_for, w_app] at h
  refine cps fun U J => ?_
  obtain ⟨x, hx, h⟩ := Option.bind_eq_some_iff.mp h
  obtain ⟨c, hc, h⟩ := Option.bind_eq_some_iff.mp h
  refine J ?_; clear J U
  refine wpAny_If (wpAny_mono (test_ok O t sc env B W r s x c A R L.bare L.st hx hc) (fun c' s₁ q => ?_) fun y_ y_ e => e)
  obtain ⟨rfl, e1⟩ := q
  have st1 : Step sc env W W s s₁ := Step.of_ext e1
  have L1 := L.next T st1 (L.st.ext e1.heap)
  refine' c' <;> simp -iota only [if_true, Bool.false_eq_true, if_false] at h ⊢
  . exact wpAny_mono (Hb sc env B hE W r s₁ out A R T L1 h) (fun f s₂ q2 => OutP.after st1 q2) fun y_ y_ e => e
  . exact wpAny_mono (Ha sc env B hE W r s₁ out A R T L1 h) (fun f s₂ q2 => OutP.after st1 q2) fun y_ y_ e => e

theorem ex_while (O : OrcOk prog w hB k o) {t : Expr} {b : List Stmt} {pos : Pos} (Hb : ExsOk prog w hB k o b) : ExOk prog w hB k o (.While t b [] pos) := by
  intro sc env B hE W r s out A R T L h
  simp only [w_ret, w_asg, w_aug, w_if, w_while, w_for, w_app] at h
  refine wpAny_While ?_
  refine codeAny_whileLoop (fun n s₁ => ∃ W1 r1, Live hE hB B sc env W1 r1 s₁ /\ Step sc env W W1 s s₁ /\ whileF (fun r => (ev o sc t r).bind truth) (fun r => Internal.execs o sc b r) n r1 = some out) (fun n s₁ I => ?_) o.fuel ⟨W, r, L, Step.drop fun y_ y_ e => e, h⟩
  refine cps fun U J => ?_
  obtain ⟨W1, r1, L1, st1, h1⟩ := I
  refine J ?_; clear J U
  cases n with
  | zero => simp [whileF] at h1
  | succ n =>
    simp only [whileF] at h1
    cases e : (ev o sc t r1).bind truth with
    | none => rw [e] at h1; refine' h1
    | some c =>
      rw [e] at h1
      obtain ⟨x, hx, hc⟩ := Option.bind_eq_some_iff.mp e
      refine wpAny_mono (test_ok O t sc env B W1 r1 s₁ x c A R L1.bare L1.st hx hc) (fun c' s₂ q => ?_) fun y_ y_ e => e.elim
      obtain ⟨rfl, e2⟩ := q
      have st2 : Step sc env W1 W1 s₁ s₂ := Step.of_ext e2
      have L2 := L1.next T st2 (L1.st.ext e2.heap)
      cases c' with
      | false =>
        simp only [Option.some.injEq] at h1
        subst h1
        simp -iota only [Bool.false_eq_true, if_false]
        exact wpAny_execs_nil ⟨rfl, W1, L2.st, st1.trans st2⟩
      | true =>
        simp only at h1
        simp -iota only [if_true]
        cases e3 : Internal.execs o sc b r1 with
        | none => rw [e3] at h1; refine' h1
        | some out1 =>
          refine wpAny_mono (Hb sc env B hE W1 r1 s₂ out1 A R T L2 e3) (fun f s₃ q3 => ?_) fun y_ y_ e => e.elim
          cases out1 with
          | next r2 =>
            rw [e3] at h1
            obtain ⟨rfl, W3, S3, st3⟩ := q3
            exact ⟨n, Nat.lt_succ_self _, W3, r2, L2.next T st3 S3, st1.trans (st2.trans st3), h1⟩
          | ret p =>
            rw [e3] at h1
            refine' h1
            obtain ⟨v, rfl, q⟩ := OutP.after (st1.trans st2) q3
            exact ⟨v, rfl, q⟩

theorem aug_inv {op : Operator} {a b c : Int} (h : augF op a b = some c) : (op = .Add /\ c = a + b) \/ (op = .Sub /\ c = a - b) := by
  cases op with
  | Add => exact .inl ⟨rfl, (Option.some.inj h).symm⟩
  | Sub => exact .inr ⟨rfl, (Option.some.inj h).symm⟩
  | _ => exact ns h
theorem ints_inv {α : Type} {f : Int -> Int -> Option α} {a b : PV} {c : α} (h : (match a, b with | .int i, .int j => f i j | _, _ => Option.none) = some c) : ∃ i j, a = .int i /\ b = .int j /\ f i j = some c := by
  cases a with
  | int i => cases b with
    | int j => exact ⟨i, j, rfl, rfl, h⟩
    | _ => exact ns h
  | _ => exact ns h

theorem ex_aug (O : OrcOk prog w hB k o) {x : Str} {op : Operator} {e : Expr} {p pos : Pos} : ExOk prog w hB k o (.AugAssign (.Name x p) op e pos) := by
  intro sc env B hE W r s out A R T L h
  simp -iota only [w_ret, w_asg, w_aug, w_if, w_while, w_for, w_app] at h
  refine cps fun U J => ?_
  obtain ⟨a, ha, h⟩ := Option.bind_eq_some_iff.mp h
  obtain ⟨b, hb, h⟩ := Option.bind_eq_some_iff.mp h
  refine J ?_; clear J U
  . obtain ⟨a, b, rfl, rfl, h⟩ := ints_inv h
    obtain ⟨c, hc, h⟩ := Option.bind_eq_some_iff.mp h
    split at h
    . rename_i hx
      refine' h
      refine wpAny_AugAssign_Name (wpAny_mono (loadName_ok O L.st ha) (fun old s₁ q1 => ?_) fun y_ y_ e => e.elim)
      obtain ⟨rfl, rd1, _⟩ := q1
      refine wpAny_mono (expr_ok O e sc env B W r s₁ _ A R L.bare L.st hb) (fun v s₂ q2 => ?_) fun y_ y_ e => e.elim
      obtain ⟨e2, rd2, _⟩ := q2
      obtain ⟨t1, rfl⟩ := rd1
      obtain ⟨t2, rfl⟩ := rd2
      have fin : ∀ s₃ v, Ext s₂ s₃ -> Rd s₃.heap (VE B env W []) (.int c) v -> wpAny (model prog w) A (storeName env x v) (fun y_ s' => OutP hB B sc env W s₁ (.next (up x (.pv (.int c)) r)) .next s') NoE s₃ := fun s₃ v e3 rd => by
        have L3 := L.next T (Step.of_ext (e2.trans e3)) (L.st.ext (e2.trans e3).heap)
        refine wpAny_mono (put_pv T hx L3.st rd L3.ent) (fun y_ s₄ b4 => ?_) fun y_ y_ e => e.elim
        exact ⟨rfl, W, b4.st, (Step.of_ext (e2.trans e3)).trans (Step.of_bound b4)⟩
      rcases aug_inv hc with ⟨rfl, rfl⟩ | ⟨rfl, rfl⟩
      . exact PySem.P.iadd_int (fin _ _ ext_toks rd_int)
      . exact PySem.P.isub_int (fin _ _ ext_toks rd_int)
    . refine' h
end
end

section
open PySem PyProof.Rows

section
variable {prog : Program} {w : World} {A : Around} {s s' s'' : Shared} {hB hE : Heap} {B : Av} {sc cs : Scope} {env : Env} {W W' W'' : Own} {r r' : Internal.Loc} {o : Orc} {k : Nat}

structure ForI (hE hB : Heap) (B : Av) (sc : Scope) (env : Env) (W : Own) (ps : List PV) (fp wr : List Addr) (P : Nat -> Value -> Prop) (Sx : Nat -> Heap -> Prop) (s : Shared) (i : Nat) (Wi : Own) (ri : Internal.Loc) (si : Shared) : Prop where
  live : Live hE hB (fun b => B b \/ b ∈ wr) sc env Wi ri si
  at_ : Sx i si.heap
  val : ∀ j x, j < ps.length -> P j x -> ∃ q, ps[j]? = some q /\ Rd si.heap (VE (fun b => B b \/ b ∈ wr) env Wi []) q x
  fpOk : ∀ b ∈ fp, ¬ Mut sc env Wi b /\ ∃ o, si.heap.get? b = some o
  step : Step sc env W Wi s si

structure ForF (prog : Program) (w : World) (sc : Scope) (env : Env) (I : Addr) (fp wr : List Addr) (n : Nat) (P : Nat -> Value -> Prop) (Sx : Nat -> Heap -> Prop) (s : Shared) : Prop where
  walks : ∀ A' : Around, A'.handled = none -> Walks prog w A' I fp wr n P Sx
  go : ∀ (target : Expr) (A : Around) (E : Value -> Shared -> Prop) (Q : Unit -> Shared -> Prop) (s' : Shared) (i j : Nat) (x : Value), Sx i s'.heap -> P j x -> Q () s' -> wpAny (model prog w) A (letOwnedTupleGo target (.ref I) x) Q E s'
  alive : ∀ i h, Sx i h -> ∀ b ∈ wr, ∃ o, h.get? b = some o
  wrNew : ∀ b ∈ wr, s.heap.get? b = Option.none
  wrOk : ∀ b ∈ wr, b ≠ env.locals /\ ∀ x, env.cells.lookup x ≠ some b

variable {ps : List PV} {fp wr : List Addr} {P : Nat -> Value -> Prop} {Sx : Nat -> Heap -> Prop} {I : Addr}

theorem ForI.moved {i j : Nat} {si : Shared} {Wi : Own} {ri : Internal.Loc} {h' : Heap} {tk : Nat} (F : ForF prog w sc env I fp wr ps.length P Sx s) (X : ForI hE hB B sc env W ps fp wr P Sx s i Wi ri si) (L0 : ∀ b o, hE.get? b = some o -> s.heap.get? b = some o)
    (hst : Sx j h') (hk : ∀ b o, b ∉ wr -> si.heap.get? b = some o -> h'.get? b = some o) : ForI hE hB B sc env W ps fp wr P Sx s j Wi ri { si with heap := h', toks := tk } := by
  have S1 : St hB (fun b => B b \/ b ∈ wr) sc env Wi ri h' := X.live.st.chg (X := fun b => b ∈ wr) (fun y_ v => v) (fun b o n e => hk b o n e) (fun b hb => ⟨.inr hb, F.wrOk b hb⟩) (fun b y_ hb => F.alive _ _ hst b hb)
  refine ⟨⟨S1, fun b o e => hk b o (fun hb => ?_) (X.live.ent b o e), X.live.new, X.live.bare⟩, hst, fun j x hj hx => ?_, fun b hb => ⟨(X.fpOk b hb).1, ?_⟩, ⟨fun b o n e => hk b o (fun hb => ?_) (X.step.kept b o n e), fun b o e => ?_, X.step.os, X.step.gens, X.step.grow⟩⟩
  . have := L0 b o e
    rw [F.wrNew b hb] at this; refine' this
  . obtain ⟨q, e1, e2⟩ := X.val j x hj hx
    exact ⟨q, e1, e2.keptX (X := fun b => b ∈ wr) (fun b hb => .inl (.inr hb)) fun b o n e => hk b o n e⟩
  . by_cases hw : b ∈ wr
    . exact F.alive _ _ hst b hw
    . obtain ⟨o, e⟩ := (X.fpOk b hb).2
      exact ⟨o, hk b o hw e⟩
  . rw [F.wrNew b hb] at e; refine' e
  . obtain ⟨o', e'⟩ := X.step.alive b o e
    exact ⟨o', hk b o' (fun hb => by rw [F.wrNew b hb] at e; refine' e) e'⟩

theorem ForI.after {i : Nat} {si sj : Shared} {Wi Wj : Own} {ri rj : Internal.Loc} (T : StorL hE sc env) (hh : A.handled = none) (F : ForF prog w sc env I fp wr ps.length P Sx s) (X : ForI hE hB B sc env W ps fp wr P Sx s i Wi ri si)
    (a : Step sc env Wi Wj si sj) (S : St hB (fun b => B b \/ b ∈ wr) sc env Wj rj sj.heap) : ForI hE hB B sc env W ps fp wr P Sx s i Wj rj sj := by
  refine ⟨X.live.next T a S, ?_, fun j x hj hx => ?_, fun b hb => ⟨?_, ?_⟩, X.step.trans a⟩
  . exact (F.walks A hh).frame _ _ _ X.at_ fun b hb o e => a.kept b o (X.fpOk b hb).1 e
  . obtain ⟨q, e1, e2⟩ := X.val j x hj hx
    refine ⟨q, e1, e2.mono (fun b o n e => a.kept b o (fun m => n (mut_ve m)) e) fun b o e v => ?_⟩
    rcases v with v | v | v | ⟨y, hy, v⟩
    . exact .inl v
    . exact .inr (.inl v)
    . exact .inr (.inr (.inl v))
    . rcases a.grow y b v with q | q
      . exact .inr (.inr (.inr ⟨y, hy, q⟩))
      . rw [q] at e; refine' e
  . obtain ⟨n, o, e⟩ := X.fpOk b hb
    rintro (m | ⟨y, m⟩)
    . exact n (.inl m)
    . rcases a.grow y b m with q | q
      . exact n (.inr ⟨y, q⟩)
      . rw [q] at e; refine' e
  . obtain ⟨_, o, e⟩ := X.fpOk b hb
    exact a.alive b o e

theorem for_loop {t : Expr} {b : List Stmt} {out : Out} (Hb : ExsOk prog w hB k o b) (R : Room k A) (T : StorL hE sc env) (F : ForF prog w sc env I fp wr ps.length P Sx s) (L : Live hE hB B sc env W r s)
    {Q : Flow -> Shared -> Prop} {RE : Value -> Shared -> Prop} (hQ : ∀ f s', OutP hB B sc env W s out f s' -> Q f s') {W0 : Own} {r0 : Internal.Loc} {s0 : Shared} (X0 : ForI hE hB B sc env W ps fp wr P Sx s 0 W0 r0 s0)
    (h : forF (fun p r => do let r' <- bindT sc t p r; Internal.execs o sc b r') ps r0 = some out) :
    codeAny (model prog w) A (.forLoop t (.ref I) b [] env) (fun res s' => match res with | .ok f => Q f s' | .error e => RE e s') s0 := by
  refine codeAny_forLoop_any (fun n si => ∃ i Wi ri, i + n = ps.length /\ ForI hE hB B sc env W ps fp wr P Sx s i Wi ri si /\ forF (fun p r => do let r' <- bindT sc t p r; Internal.execs o sc b r') (ps.drop i) ri = some out) (fun n si hI => ?_) ps.length ⟨0, W0, r0, by simp, X0, by simpa using h⟩
  refine cps fun U J => ?_
  obtain ⟨i, Wi, ri, hn, X, hf⟩ := hI
  refine J ?_; clear J U
  by_cases hi : i < ps.length
  . refine (F.walks A R.handled).item i si _ _ hi X.at_ fun v h' tk hPv hst hk => ?_
    dsimp only
    have X1 := X.moved (tk := tk) F L.ent hst hk
    refine F.go t A _ _ _ (i + 1) i v hst hPv ?_
    have hd : ps.drop i = ps[i] :: ps.drop (i + 1) := by simp
    rw [hd] at hf
    rw [forF_r rfl] at hf
    obtain ⟨q, hq, hv⟩ := X1.val i v hi hPv
    have hq' : ps[i] = q := by simpa [hi] using hq
    rw [hq'] at hf
    cases e : (do let r' <- bindT sc t q ri; Internal.execs o sc b r') with
    | none => rw [e] at hf; refine' hf
    | some out1 =>
      rw [e] at hf
      obtain ⟨r', hr', hx⟩ := Option.bind_eq_some_iff.mp e
      refine wpAny_mono (bindT_ok R.handled T hr' X1.live.st hv X1.live.ent) (fun y_ s₂ b2 => ?_) fun y_ y_ e => e.elim
      have X2 := X1.after T R.handled F (Step.of_bound b2) b2.st
      refine wpAny_mono (Hb sc env _ hE Wi r' s₂ out1 A R T X2.live hx) (fun f s₃ q3 => ?_) fun y_ y_ e => e.elim
      cases out1 with
      | next r3 =>
        refine cps fun U J => ?_
        obtain ⟨rfl, W3, S3, st3⟩ := q3
        refine J ?_; clear J U
        obtain ⟨n', rfl⟩ := n_z hn hi
        exact ⟨n', Nat.lt_succ_self n', i + 1, W3, r3, n_sh hn, X2.after T R.handled F st3 S3, hf⟩
      | ret p =>
        refine' hf
        refine cps fun U J => ?_
        obtain ⟨u, rfl, rd, st3⟩ := q3
        refine J ?_; clear J U
        have st := X2.step.trans st3
        exact hQ _ _ ⟨u, rfl, rd.less fun b v => .inl v, ⟨st.kept, st.alive, st.os, st.gens, fun y_ y_ e => .inl e⟩⟩
  . have hl : i = ps.length := Nat.le_antisymm (Nat.le_of_add_right_le (Nat.le_of_eq hn)) (Nat.le_of_not_lt hi)
    subst hl
    rw [List.drop_length] at hf
    cases hf
    refine (F.walks A R.handled).done si _ _ X.at_ fun h' tk hk => ?_
    dsimp only
    refine wpAny_execs_nil (hQ _ _ ⟨rfl, Wi, ?_, ⟨fun b o n e => hk b o (fun hb => ?_) (X.step.kept b o n e), fun b o e => ?_, X.step.os, X.step.gens, X.step.grow⟩⟩)
    . exact X.live.st.chg (X := fun b => b ∈ wr) (fun b v => .inl v) (fun b o n e => hk b o n e) (fun b hb => ⟨.inr hb, F.wrOk b hb⟩) (fun b v hb => by
        obtain ⟨o, e⟩ := L.st.laid b (.inl v)
        rw [F.wrNew b hb] at e; refine' e)
    . rw [F.wrNew b hb] at e; refine' e
    . obtain ⟨o', e'⟩ := X.step.alive b o e
      exact ⟨o', hk b o' (fun hb => by rw [F.wrNew b hb] at e; refine' e) e'⟩

theorem ex_for (O : OrcOk prog w hB k o) {t it : Expr} {b : List Stmt} {pos : Pos} (Hb : ExsOk prog w hB k o b) : ExOk prog w hB k o (.For t it b [] pos) := by
  intro sc env B hE W r s out A R T L h
  simp only [w_ret, w_asg, w_aug, w_if, w_while, w_for, w_app] at h
  refine cps fun U J => ?_
  obtain ⟨x, hx, h⟩ := Option.bind_eq_some_iff.mp h
  obtain ⟨ps, hps, h⟩ := Option.bind_eq_some_iff.mp h
  refine J ?_; clear J U
  refine wpAny_For ?_ (notSet (by rintro es k q rfl; simp [v_c, v_n, v_bool, v_bin, v_not, v_neg, v_if, v_list, v_tup, v_cmp1, v_cmp2, v_call, v_meth, v_slc, v_sub, v_comp, v_star, v_set, v_setc, v_dictc, v_kw, v_comp0] at hx))
  refine wpAny_mono (expr_ok O it sc env B W r s x A R L.bare L.st hx) (fun y s₁ q1 => ?_) fun y_ y_ e => e.elim
  obtain ⟨e1, rd1, _⟩ := q1
  have S1 := L.st.ext e1.heap
  have L1 := L.next T (Step.of_ext e1) S1
  refine wpAny_mono (iter_ok (V := VE B env W (esc it)) (S1.laidE _) hps rd1.shallow) (fun itv s₂ q2 => ?_) fun y_ y_ e => e.elim
  refine cps fun U J => ?_
  obtain ⟨I, fp, wr, P, Sx, rfl, it2, e2, fpv⟩ := q2
  refine J ?_; clear J U
  have e12 := e1.trans e2
  have none_s : ∀ b, s₁.heap.get? b = Option.none -> s.heap.get? b = Option.none := fun b e => by
    cases q : s.heap.get? b with
    | none => rfl
    | some o => rw [e1.heap b o q] at e; refine' e
  have wrOk : ∀ b ∈ wr, b ≠ env.locals /\ ∀ x, env.cells.lookup x ≠ some b := fun b hb => by
    have n := (it2.wrNew b hb).1
    refine ⟨fun e => ?_, fun x e => ?_⟩
    . obtain ⟨o, ho⟩ := S1.laid b (.inr (.inl e))
      rw [n] at ho; refine' ho
    . obtain ⟨o, ho⟩ := S1.laid b (.inr (.inr (.inl ⟨x, e⟩)))
      rw [n] at ho; refine' ho
  have F : ForF prog w sc env I fp wr ps.length P Sx s := ⟨it2.walks, it2.go, it2.alive, fun b hb => none_s b (it2.wrNew b hb).1, wrOk⟩
  have S2 : St hB (fun b => B b \/ b ∈ wr) sc env (Wm W (esc it)) (frz (esc it) r) s₂.heap := (S1.frz (esc it)).more e2.heap fun b hb => it2.wrNew b hb
  have L2 := L1.next T (Step.of_ext e2) (S1.ext e2.heap)
  refine for_loop Hb R T F L (fun f s' q => q) ⟨⟨S2, L2.ent, fun y a e => L2.new y a (wm_some e).2, L2.bare⟩, it2.st, fun j x hj hx => ?_, fun b hb => ?_, (Step.of_ext e12).sub fun y a e => (wm_some e).2⟩ h
  . obtain ⟨q, g1, g2⟩ := it2.val j x hj hx
    refine ⟨q, g1, g2.mono e2.gr fun b o e v => ?_⟩
    rcases v with (v | v) | v | v | ⟨y, _, v⟩
    . exact .inl v
    . rw [(it2.wrNew b v).1] at e; refine' e
    . exact .inr (.inl v)
    . exact .inr (.inr (.inl v))
    . obtain ⟨h1, h2⟩ := wm_some v; exact .inr (.inr (.inr ⟨y, h1, h2⟩))
  . refine ⟨fun m => ?_, ?_⟩
    . rcases fpv _ rd1 b hb with hw | hn
      . rcases m with m | ⟨y, m⟩
        . obtain ⟨g1, g2⟩ := wrOk b hw
          rcases m with rfl | ⟨x, _, e⟩
          . exact g1 rfl
          . exact g2 x e
        . obtain ⟨o, ho⟩ := S1.laid b (.inr (.inr (.inr ⟨y, by simp, (wm_some m).2⟩)))
          rw [(it2.wrNew b hw).1] at ho; refine' ho
      . exact hn (ve_wm.mp (mut_ve m))
    . rcases it2.fpOld b hb with hw | ⟨o, e⟩
      . exact (it2.wrNew b hw).2
      . exact ⟨o, e2.heap b o e⟩
end
end

section
open PySem PyProof.Rows

section
variable {prog : Program} {w : World} {A : Around} {s s' s'' : Shared} {hB hE : Heap} {B : Av} {sc cs : Scope} {env : Env} {W W' W'' : Own} {r r' : Internal.Loc} {o : Orc} {k : Nat}

theorem setItem_plain {E : Value -> Shared -> Prop} {l : Addr} {items : Array Value} {k : Int} {t : Tok} {v : Value} {Q : Unit -> Shared -> Prop} (hl : s.heap.PlainList l items)
    (h0 : 0 <= k) (hfit : k < 2 ^ 63) (hn : k < items.size)
    (hQ : ∀ h', h'.PlainList l (items.setIfInBounds k.toNat v) -> Heap.SameBut l s.heap h' -> Q () { s with heap := h' }) :
    wpAny (model prog w) A (setItem (.ref l) (.int k t) v) Q E s := by
  have hi := hl.isList
  obtain ⟨n, ho⟩ := hl
  unfold setItem
  try with_reducible refine wpAny_holding ?_
  first | refine wpAny_bind (wpAny_pure ?_) | skip
  refine wpAny_bind (wpAny_sequenceKey hi.typeIs (by decide) ?_)
  refine wpAny_bind (wpAny_callSpecial?_slot (name := Str.ofString "__setitem__") hi.typeIs PySem.F.slot_list_setitem
    (wpAny_call_entry PySem.F.slot_list_setitem hi.typeIs PySem.F.entry_list_setitem ?_ (PySem.F.args_list_setitem_3 _ _ _)))
  show wpAny _ _ (Builtin.List.listSubscript? (.int k t) >>= _) _ _ s
  refine wpAny_bind (wpAny_listSubscript_int (fitsIndex_of h0 hfit) ?_)
  clear hfit
  obtain ⟨j, rfl⟩ := Int.eq_ofNat_of_zero_le h0
  have hj : j < items.size := by lia
  have hx' : items[j]? = some items[j] := Array.getElem?_eq_getElem hj
  show wpAny _ _ ((seqItemAt l j >>= fun r => pure (r.map (j, ·))) >>= _) _ _ s
  refine wpAny_bind (wpAny_bind (wpAny_seqItemAt ho rfl (wpAny_pure ?_)))
  rw [hx']
  show wpAny _ _ (setSeqItemAt l j v >>= _) _ _ s
  have hm : ∃ n', Obj.mapSeq (·.setIfInBounds j v) { cls := .type "list", data := .seq items n } = { cls := .type "list", data := .seq (items.setIfInBounds j v) n' } := by
    simp [Obj.mapSeq]
  obtain ⟨n', hm⟩ := hm
  have hfin : (s.heap.update l (Obj.mapSeq (·.setIfInBounds j v))).PlainList l (items.setIfInBounds j v) :=
    ⟨n', by rw [Heap.get?_update_self _ ho (by rw [hm]; rfl), hm]⟩
  refine wpAny_bind (wpAny_setSeqItemAt ho rfl ?_)
  first
    | exact wpAny_bind (wpAny_pure (wpAny_pure ⟨.none, rfl, wpAny_pure (hQ _ hfin (Heap.SameBut.update ..))⟩))
    | exact wpAny_pure ⟨.none, rfl, wpAny_pure (hQ _ hfin (Heap.SameBut.update ..))⟩

theorem loadOwn_ok (S : St hB B sc env W r s.heap) {x : Str} {l : List PV} (hs : storable sc x = true) (h : r x = some (.own l)) :
    wpAny (model prog w) A (loadName env x) (fun v s' => s' = s /\ Sl s.heap (VE B env W []) W x (.own l) v) NoE s := by
  rcases stor_inv hs with hk | hk
  . refine cps fun U J => ?_
    obtain ⟨m, hn, q⟩ := S.loc
    obtain ⟨v, h1, h2⟩ := q x _ hk h
    refine J ?_; clear J U
    have hke : env.kindOf x = some .local := by rcases S.same x with e | ⟨e, _⟩ <;> rw [hk] at e; exact e; refine' e
    exact wpAny_loadName_local S.envs.kind hke hn h1 ⟨rfl, h2⟩
  . refine cps fun U J => ?_
    obtain ⟨c, hc, vo, hv, q⟩ := S.cel x (.inl hk)
    obtain ⟨v, rfl, h2⟩ := q _ h
    refine J ?_; clear J U
    have hke : env.kindOf x = some .cell := by rcases S.same x with e | ⟨e, _⟩ <;> rw [hk] at e; exact e; refine' e
    exact wpAny_loadName_cell S.envs.kind hke hc hv ⟨rfl, h2⟩

theorem St.own_set {h h' : Heap} {x : Str} {a : Addr} {l l' : List PV} {vs' : Array Value} (S : St hB B sc env W r h) (hr : r x = some (.own l)) (hW : W x = some a) (sb : Heap.SameBut a h h') (pl : h'.PlainList a vs')
    (rd : RdL h (VE B env W []) l' vs'.toList) : St hB B sc env W (up x (.own l') r) h' := by
  refine cps fun U J => ?_
  obtain ⟨w1, w2, w3, w4⟩ := S.own x a hW
  refine J ?_; clear J U
  have aVE : VE B env W [] a := .inr (.inr (.inr ⟨x, by simp, hW⟩))
  have g : ∀ b o, b ≠ a -> h.get? b = some o -> h'.get? b = some o := fun b o n e => sb.extBut b o n e
  have rd' : RdL h' (VE B env W []) l' vs'.toList := rd.gr fun b o n e => g b o (fun q => n (q ▸ aVE)) e
  have mv : ∀ {y sl v}, y ≠ x -> Sl h (VE B env W []) W y sl v -> Sl h' (VE B env W []) W y sl v := fun hy q => q.mono (fun b o n e => g b o (fun q => by
    rcases n with n | n
    . exact n (q ▸ aVE)
    . cases q.symm; exact hy (w4 _ n)) e) (fun y_ y_ y_ v => v) rfl
  have me : ∀ {v}, Sl h (VE B env W []) W x (.own l) v -> Sl h' (VE B env W []) W x (.own l') v := by
    rintro v ⟨b, vs, rfl, e2, _, _⟩
    rw [hW] at e2; refine' e2
    exact ⟨a, vs', rfl, hW, pl, rd'⟩
  refine ⟨S.envs, S.same, S.noClass, S.noDebug, fun b o e => g b o (fun q => by cases q.symm; rw [S.apart _ aVE] at e; refine' e) (S.base b o e), fun b v => ?_, S.apart, S.own, ?_, ?_⟩
  . by_cases hb : b = a
    . cases hb.symm; obtain ⟨n, e⟩ := pl; exact ⟨_, e⟩
    . obtain ⟨o, ho⟩ := S.laid b v; exact ⟨o, g b o hb ho⟩
  . obtain ⟨m, hn, q⟩ := S.loc
    refine ⟨m, hn.at' fun o e => g _ o (Ne.symm w2) e, fun y sl hk e => ?_⟩
    by_cases hy : y = x
    . subst hy
      simp only [up, if_true] at e
      refine' e
      obtain ⟨v, h1, h2⟩ := q y _ hk hr
      exact ⟨v, h1, me h2⟩
    . simp only [up, if_neg hy] at e
      obtain ⟨v, h1, h2⟩ := q y sl hk e
      exact ⟨v, h1, mv hy h2⟩
  . intro y hk
    refine cps fun U J => ?_
    obtain ⟨c, h1, vo, ⟨oc, hoc, hcc⟩, q⟩ := S.cel y hk
    refine J ?_; clear J U
    refine ⟨c, h1, vo, ⟨oc, g c oc (fun e => by cases e.symm; exact w3 y h1) hoc, hcc⟩, fun sl e => ?_⟩
    by_cases hy : y = x
    . subst hy
      simp only [up, if_true] at e
      refine' e
      obtain ⟨v, h3, h4⟩ := q _ hr
      exact ⟨v, h3, me h4⟩
    . simp only [up, if_neg hy] at e
      obtain ⟨v, h3, h4⟩ := q sl e
      exact ⟨v, h3, mv hy h4⟩

theorem Step.own {h' : Heap} {x : Str} {a : Addr} {vs : Array Value} (hW : W x = some a) (sb : Heap.SameBut a s.heap h') (pl : h'.PlainList a vs) : Step sc env W W s { s with heap := h' } := by
  refine ⟨fun b o n e => sb.extBut b o (fun q => n (.inr ⟨x, q ▸ hW⟩)) e, fun b o e => ?_, rfl, fun g => g, fun y_ y_ e => .inl e⟩
  by_cases hb : b = a
  . subst hb; obtain ⟨n, e⟩ := pl; exact ⟨_, e⟩
  . exact ⟨o, sb.extBut b o hb e⟩

set_option tactic.hygienic true in
theorem ex_append (O : OrcOk prog w hB k o) {x m : Str} {e : Expr} {q ap pos pos' : Pos} : ExOk prog w hB k o (.Expr (.Call (.Attribute (.Name x q) m ap) [e] [] pos) pos') := by
  intro sc env B hE W r s out A R T L h
  simp -iota only [w_ret, w_asg, w_aug, w_if, w_while, w_for, w_app] at h
  obtain ⟨p, hp, h2⟩ := Option.bind_eq_some_iff.mp h
  split at h2
  . rename_i hc
    refine cps fun U J => ?_
    obtain ⟨rfl, hst, hx, hl⟩ := hc
    refine J ?_; clear J U
    . replace h2 := own_inv (a := r x) h2
      obtain ⟨l, hr, h2⟩ := h2
      replace h2 : (if _ then _ else _) = some out := h2
      split at h2
      . rename_i hlen
        refine' h2
        have hin : interactive env = false := by unfold interactive; rw [L.st.envs.kind]; rfl
        have hkx : ∃ kk, kd sc x = some kk := by
          exact (stor_inv hst).elim (fun h => ⟨_, h⟩) fun h => ⟨_, h⟩
        obtain ⟨kk, hkk⟩ := hkx
        have hevs : evs o sc [e] r = some [p] := by
          have hn : ∀ x q, e ≠ .Starred x q := by rintro x q rfl; simp [v_c, v_n, v_bool, v_bin, v_not, v_neg, v_if, v_list, v_tup, v_cmp1, v_cmp2, v_call, v_meth, v_slc, v_sub, v_comp, v_star, v_set, v_setc, v_dictc, v_kw, v_comp0] at hp
          have : evs o sc [e] r = (do let x <- ev o sc e r; let xs <- evs o sc [] r; some (x :: xs)) := by refine' e <;> first | rfl | exact absurd rfl (hn _ _) | simp only [v_s0, v_ss, v_s1]
          rw [this, hp]
          simp [v_s0, v_ss, v_s1]
        refine wpAny_Expr_any ?_ hin rfl
        rw [arm_eval_Call]
        show wpAny _ A (eval (.Name x q) env >>= _) _ _ _
        refine wpAny_bind (wpAny_Name (wpAny_mono (loadOwn_ok L.st hst hr) (fun v s₁ q1 => ?_) fun y_ y_ e => e.elim) (L.st.noDebug x kk hkk))
        refine cps fun U J => ?_
        obtain ⟨rfl, a, vs, rfl, hW, pl, rd⟩ := q1
        refine J ?_; clear J U
        refine wpAny_bind (wpAny_standAt ?_)
        have hform : methodCallForm (([e] : List Expr).length + ([] : List Keyword).length) (backTo pos (starEach [e] env)) (backToKw pos (keywordEach [] env)) = true := by
          unfold methodCallForm
          rw [evs_flags hevs]; rfl
        have hpos : methodCallPos true (.Name x q) env ap pos = pure pos := by unfold methodCallPos; simp [hl]
        unfold methodCall
        rw [hform]
        obtain ⟨n0, ho⟩ := id pl
        refine wpAny_bind (wpAny_holding (Calls.getMethod_list_append ho rfl rfl ?_))
        refine wpAny_bind (wpAny_of_eq hpos ?_)
        refine callWith_any (.inl ⟨_, rfl⟩) hevs (wpAny_mono (evs_ok (fun e' he => by simp at he; cases he.symm; exact expr_ok O _) R L.bare L.st hevs) (fun us s₂ q2 => ?_) fun y_ y_ e => e.elim)
        refine cps fun U J => ?_
        obtain ⟨e2, rds⟩ := q2
        obtain ⟨v, us', rfl, rd2, rn⟩ := RdL_cons.mp rds
        refine J ?_; clear J U
        cases RdL_nil.mp rn
        have hsz : vs.size = l.length := by simpa using rd.length
        refine wpAny_list_append_plain (pl.at fun o e => e2.heap a o e) (fun h' pl' sb => ?_) (by rw [hsz]; exact lt_wide (Nat.le_of_lt hlen))
        have S2 := (L.st.ext e2.heap).frz (esc e)
        have hW' : Wm W (esc e) x = some a := by simp [Wm, hx, hW]
        have hr' : frz (esc e) r x = some (.own l) := by simp [frz, hx, hr]
        have vee : ∀ b, VE B env (Wm W (esc e)) [] b -> VE B env W (esc.escs [e]) b := fun b v => VE.less (by simp [s_0, s_1]) b (ve_wm.mp v)
        refine ⟨rfl, Wm W (esc e), S2.own_set hr' hW' sb pl' ?_, ((Step.of_ext e2).sub fun y b e => (wm_some e).2).trans (Step.own hW' sb pl')⟩
        rw [Array.toList_push]
        exact ((rd.gr e2.gr).less fun b v => VE.less (by simp) b (ve_wm.mp v)).append (RdL.cons (rd2.less vee) RdL.nil)
      . refine' h2
  . refine' h2

set_option tactic.hygienic true in
theorem ex_setitem (O : OrcOk prog w hB k o) {x : Str} {i e : Expr} {q sp pos : Pos} : ExOk prog w hB k o (.Assign [.Subscript (.Name x q) i sp] e pos) := by
  intro sc env B hE W r s out A R T L h
  simp -iota only [w_ret, w_asg, w_aug, w_if, w_while, w_for, w_app, a_tt, a_t, a_n, a_nn, a_s, a_0, a_3] at h
  refine cps fun U J => ?_
  obtain ⟨r', h2, rfl⟩ := Option.map_eq_some_iff.mp h
  obtain ⟨pv, hpv, h3⟩ := Option.bind_eq_some_iff.mp h2
  refine J ?_; clear J U
  . replace h3 := int_inv h3
    obtain ⟨v, rfl, h3⟩ := h3
    obtain ⟨pi, hpi, h4⟩ := Option.bind_eq_some_iff.mp h3
    clear h3
    . replace h4 := kown_inv (a := r x) h4
      obtain ⟨kk, l, rfl, hr, h4⟩ := h4
      replace h4 : (if _ then _ else _) = some r' := h4
      split at h4
      . rename_i hc
        refine cps fun U J => ?_
        obtain ⟨h0, h1, hst, hwd⟩ := hc
        refine J ?_; clear J U
        refine' h4
        have hkx : ∃ kk, kd sc x = some kk := by
          exact (stor_inv hst).elim (fun h => ⟨_, h⟩) fun h => ⟨_, h⟩
        obtain ⟨kx, hkx⟩ := hkx
        refine wpAny_Assign_Subscript (wpAny_mono (expr_ok O e sc env B W r s _ A R L.bare L.st hpv) (fun u s₁ q1 => ?_) fun y_ y_ e => e.elim) (by refine' e <;> rfl)
        obtain ⟨e1, rd1, _⟩ := q1
        have S1 := L.st.ext e1.heap
        refine wpAny_Name (wpAny_mono (loadOwn_ok S1 hst hr) (fun ov s₂ q2 => ?_) fun y_ y_ e => e.elim) (S1.noDebug x kx hkx)
        refine cps fun U J => ?_
        obtain ⟨rfl, a, vs, rfl, hW, pl, rd⟩ := q2
        refine J ?_; clear J U
        refine wpAny_mono (expr_ok O i sc env B W r s₂ _ A R (e1.gens L.bare) S1 hpi) (fun iv s₃ q3 => ?_) fun y_ y_ e => e.elim
        refine cps fun U J => ?_
        obtain ⟨e3, rd3, _⟩ := q3
        obtain ⟨t1, rfl⟩ := rd1
        obtain ⟨t3, rfl⟩ := rd3
        refine J ?_; clear J U
        have hsz : vs.size = l.length := by simpa using rd.length
        refine setItem_plain (pl.at fun o e => e3.heap a o e) h0 (by simp only [wide] at hwd; lia) (by rw [hsz]; exact h1) (fun h' pl' sb => ?_)
        refine ⟨rfl, W, (S1.ext e3.heap).own_set hr hW sb pl' ?_, (Step.of_ext (e1.trans e3)).trans (Step.own hW sb pl')⟩
        have := RdL.set kk.toNat (rd.gr e3.gr) (rd_int (V := VE B env W []) (h := s₃.heap) (i := v) (t := t1))
        simpa using this
      . refine' h4
end
end

section
open PySem PyProof.Rows

section
variable {prog : Program} {w : World} {A : Around} {s s' s'' : Shared} {hB hE : Heap} {B : Av} {sc cs : Scope} {env : Env} {W W' W'' : Own} {r r' : Internal.Loc} {o : Orc} {k : Nat}

noncomputable def NewL (s : Shared) (B : Av) (env : Env) (W : Own) (e : Expr) (l : List PV) (v : Value) (s' : Shared) : Prop :=
  Ext s s' /\ ∃ a vs, v = .ref a /\ s.heap.get? a = Option.none /\ s'.heap.PlainList a vs /\ RdL s'.heap (fun b => VE B env W (esc e) b \/ b = a) l vs.toList

theorem none_back {s s' : Shared} (e : Ext s s') {b : Addr} (h : s'.heap.get? b = Option.none) : s.heap.get? b = Option.none := by
  cases q : s.heap.get? b with
  | none => rfl
  | some o => rw [e.heap b o q] at h; refine' h

theorem list_inv {xs l : List PV} (h : bf .list xs = some (.lst l)) : ∃ a b c, xs = [.rng a b c] /\ (rngList a b c).length <= wide /\ l = rngList a b c := by
  cases bf_inv h with
  | list a b c hl => exact ⟨a, b, c, rfl, hl, rfl⟩
theorem fresh_is {e : Expr} : fresh e = true -> (∃ es q, e = .List es q) \/ ∃ fp as ks q, e = .Call (.Name "list" fp) as ks q := by
  cases e with
  | List es q => exact fun y_ => .inl ⟨es, q, rfl⟩
  | Call f as ks q => cases f with
    | Name x p => exact fun h => .inr ⟨p, as, ks, q, by rw [eq_of_beq (show (x == "list") = true from h)]⟩
    | _ => exact bs
  | _ => exact bs
theorem fresh_ok (O : OrcOk prog w hB k o) {e : Expr} {l : List PV} (R : Room k A) (G : AllBare s.gens) (S : St hB B sc env W r s.heap) (hf : fresh e = true) (h : ev o sc e r = some (.lst l)) :
    wpAny (model prog w) A (eval e env) (NewL s B env W e l) NoE s := by
  rcases fresh_is hf with ⟨es, pos, rfl⟩ | ⟨fp, as, kws, pos, rfl⟩
  . skip
    simp only [v_c, v_n, v_bool, v_bin, v_not, v_neg, v_if, v_list, v_tup, v_cmp1, v_cmp2, v_call, v_meth, v_slc, v_sub, v_comp, v_star, v_set, v_setc, v_dictc, v_kw, v_comp0] at h
    split at h <;> (try (refine' h; done))
    rename_i hl
    obtain ⟨ps, hps, e1⟩ := Option.map_eq_some_iff.mp h
    refine' e1
    refine wpAny_List (wpAny_mono (evs_ok (fun e y_ => expr_ok O e) R G S hps) (fun vs s₁ q => ?_) fun y_ y_ e => e)
    have L := evs_len hps
    have L2 := q.2.length
    refine ⟨lt_wide (Nat.le_trans (Nat.le_of_eq (L2.trans L)) (Nat.le_trans hl (by decide))), q.1.trans ext_push', s₁.heap.objs.size, vs.toArray, rfl, none_back q.1 (size_free _), ⟨_, Heap.get?_push_size _ rfl⟩, ?_⟩
    have : esc (.List es pos) = esc.escs es := by simp only [s_n, s_if, s_bool, s_list, s_tup, s_comp, s_call, s_meth, s_sub, s_bin, s_c, s_cmp, s_un]
    rw [this]
    have rd : RdL s₁.heap (VE B env W (esc.escs es)) l vs.toArray.toList := by simpa using q.2
    exact rd.mono Gr.push fun b o e v => by
      rcases v with v | rfl
      . exact v
      . rw [size_free] at e; refine' e
  . skip
    cases kws with
    | cons kw kws => simp [v_c, v_n, v_bool, v_bin, v_not, v_neg, v_if, v_list, v_tup, v_cmp1, v_cmp2, v_call, v_meth, v_slc, v_sub, v_comp, v_star, v_set, v_setc, v_dictc, v_kw, v_comp0] at h
    | nil =>
      simp only [v_c, v_n, v_bool, v_bin, v_not, v_neg, v_if, v_list, v_tup, v_cmp1, v_cmp2, v_call, v_meth, v_slc, v_sub, v_comp, v_star, v_set, v_setc, v_dictc, v_kw, v_comp0] at h
      obtain ⟨xs, hxs, h2⟩ := Option.bind_eq_some_iff.mp h
      split at h2
      . rename_i hk
        have hb : bname "list" = some .list := by rfl
        have hke : env.kindOf "list" = some .globalImplicit := by rcases S.same "list" with e | ⟨e, _⟩ <;> rw [hk] at e; exact e; refine' e
        unfold Orc.call at h2
        rw [hb] at h2
        simp only at h2
        have hx := list_inv h2
        refine cps fun U J => ?_
        obtain ⟨a, b, c, rfl, hl, rfl⟩ := hx
        refine J ?_; clear J U
        refine Call_Name rfl (wpAny_Name (O.bf "list" .list hb env A NoE _ s S.envs hke S.base ?_) (S.noDebug "list" _ hk))
        refine callWith_any (bval_form .list) hxs (wpAny_mono (evs_ok (fun e y_ => expr_ok O e) R G S hxs) (fun vs s₁ q => ?_) fun y_ y_ e => e)
        refine cps fun U J => ?_
        obtain ⟨v, r', rfl, h1, h5⟩ := RdL_cons.mp q.2
        refine J ?_; clear J U
        cases RdL_nil.mp h5
        refine cps fun U J => ?_
        obtain ⟨r0, t, u, v, rfl, _, hr, hs⟩ := h1
        refine J ?_; clear J U
        have hl' : (Builtin.Range.rangeSize a b c).toNat <= wide := by simpa [rngList] using hl
        have hnn : Builtin.Range.rangeSize a b c = ((Builtin.Range.rangeSize a b c).toNat : Int) := (Int.toNat_of_nonneg rangeSize_nonneg).symm
        refine call_list_range R.handled hr hs hnn (lt_wide hl') fun h' tk acc' c' hk hg hit => ⟨q.1.trans (Ext.of_heap hk), _, acc', rfl, none_back q.1 (size_free _), ⟨_, hg⟩, ?_⟩
        refine rngList_rd (by simpa using hit.1) fun i hi => ?_
        exact hit.2 i _ (by simp at hi; simp [hi])
      . refine' h2
end
end

section
open PySem PyProof.Rows

section
variable {prog : Program} {w : World} {A : Around} {s s₁ s' s'' : Shared} {hB hE : Heap} {B : Av} {sc cs : Scope} {env : Env} {W W' W'' : Own} {r r' : Internal.Loc} {o : Orc} {k : Nat}

theorem put_alive {r1 : Internal.Loc} (S : St hB B sc env W' r1 s'.heap) (kp : ∀ b o, ¬ Put sc env b -> s.heap.get? b = some o -> s'.heap.get? b = some o) : ∀ b o, s.heap.get? b = some o -> ∃ o', s'.heap.get? b = some o' := by
  intro b o e
  by_cases hp : Put sc env b
  . exact S.laid b (put_ve hp)
  . exact ⟨o, kp b o hp e⟩

theorem own_store (T : StorL hE sc env) (L : Live hE hB B sc env W r s) {x : Str} {e : Expr} {l : List PV} {v : Value} (hx : storable sc x = true) (N : NewL s B env W e l v s₁) :
    wpAny (model prog w) A (storeName env x v) (fun y_ s' => OutP hB B sc env W s (.next (up x (.own l) (frz (esc e) r))) .next s') NoE s₁ := by
  refine cps fun U J => ?_
  obtain ⟨e1, a, vs, rfl, ha, pl, rd⟩ := N
  refine J ?_; clear J U
  have free : ∀ b, VE B env W [] b -> b ≠ a := fun b v q => by
    subst q
    obtain ⟨o, ho⟩ := L.st.laid b v
    rw [ha] at ho; refine' ho
  have S1 : St hB (fun b => B b \/ b = a) sc env (Wm W (esc e)) (frz (esc e) r) s₁.heap := (L.st.frz (esc e)).more e1.heap fun b hb => by subst hb; exact ⟨ha, let ⟨n, e⟩ := pl; ⟨_, e⟩⟩
  have S2 := S1.take (x := x) (fun q => free a (.inl q) rfl) (fun q => free a (.inr (.inl q)) rfl) (fun y q => free a (.inr (.inr (.inl ⟨y, q⟩))) rfl) (fun y q => free a (.inr (.inr (.inr ⟨y, by simp, (wm_some q).2⟩))) rfl)
  have L1 := L.next T (Step.of_ext e1) (L.st.ext e1.heap)
  refine wpAny_mono (store_ok (r := frz (esc e) r) T hx S2 (sl := .own l) ⟨a, vs, rfl, by simp, pl, rd.less fun b v => ?_⟩ L1.ent) (fun y_ s₂ q => ?_) fun y_ y_ e => e
  . rcases v with v | v | v | ⟨y, _, v⟩
    . exact .inl (.inl v)
    . exact .inl (.inr (.inl v))
    . exact .inl (.inr (.inr (.inl v)))
    . dsimp only at v
      split at v
      . refine' v; exact .inr rfl
      . obtain ⟨g1, g2⟩ := wm_some v; exact .inl (.inr (.inr (.inr ⟨y, g1, g2⟩)))
  . refine cps fun U J => ?_
    obtain ⟨S3, en, kp, ho, hg⟩ := q
    refine J ?_; clear J U
    refine ⟨rfl, _, S3, fun b o n q => kp b o (fun p => n (.inl p)) (e1.heap b o q), fun b o q => put_alive S3 kp b o (e1.heap b o q), ho.trans e1.os, fun g => by rw [hg]; exact e1.gens g, fun y b q => ?_⟩
    split at q
    . refine' q; exact .inr ha
    . exact .inl (wm_some q).2

theorem pv_store (T : StorL hE sc env) (L : Live hE hB B sc env W r s) {x : Str} {xs : List Str} {p : PV} {v : Value} (hx : storable sc x = true) (e1 : Ext s s₁) (rd : Rd s₁.heap (VE B env W xs) p v) :
    wpAny (model prog w) A (storeName env x v) (fun y_ s' => OutP hB B sc env W s (.next (up x (.pv p) (frz xs r))) .next s') NoE s₁ := by
  have L1 := L.next T (Step.of_ext e1) (L.st.ext e1.heap)
  refine wpAny_mono (put_pv T hx (L1.st.frz xs) (rd.less fun b => ve_wm.mp) L1.ent) (fun y_ s₂ b2 => ?_) fun y_ y_ e => e
  exact ⟨rfl, _, b2.st, ((Step.of_ext e1).sub fun y b q => (wm_some q).2).trans (Step.of_bound b2)⟩

theorem comp_zero {elt : Expr} {g : Comprehension} {gs : List Comprehension} {pos : Pos} {p : PV} (h : ev o sc (.ListComp elt (g :: gs) cs pos) r = some p) : g.is_async = 0 := by
  refine cps fun U J => ?_
  obtain ⟨t, it, ifs, a⟩ := g
  simp -iota only [v_c, v_n, v_bool, v_bin, v_not, v_neg, v_if, v_list, v_tup, v_cmp1, v_cmp2, v_call, v_meth, v_slc, v_sub, v_comp, v_star, v_set, v_setc, v_dictc, v_kw, v_comp0] at h
  obtain ⟨x, hx, h2⟩ := Option.bind_eq_some_iff.mp h
  obtain ⟨ps, hps, h3⟩ := Option.bind_eq_some_iff.mp h2
  refine J ?_; clear J U
  split at h3
  . rename_i hc
    unfold compOk at hc
    simp -iota only [Bool.and_eq_true, decide_eq_true_eq] at hc
    exact hc.1.1.1
  . refine' h3

theorem swaps_of {e : Expr} {x : Str} {q : Pos} {n : Nat} {p : PV} (h : ev o sc e r = some p) : swapsWith e (some (.Name x q)) n env = pure false \/ (swapsWith e (some (.Name x q)) n env = pure true /\ ∃ elt gens cs pos, e = .ListComp elt gens cs pos) := by
  cases e with
  | ListComp elt gens cs pos =>
    by_cases hb : (env.blockKind == .function && env.kindOf x == some .local && q.line == (Expr.ListComp elt gens cs pos).pos.line && !(cs.names.any fun (n, k) => n == x && (k == .local || k == .cell))) = true
    . refine .inr ⟨?_, _, _, _, _, rfl⟩
      show pure _ = _
      rw [hb]
    . refine .inl ?_
      show pure _ = _
      rw [Bool.eq_false_iff.mpr hb]
  | SetComp => simp -iota [v_c, v_n, v_bool, v_bin, v_not, v_neg, v_if, v_list, v_tup, v_cmp1, v_cmp2, v_call, v_meth, v_slc, v_sub, v_comp, v_star, v_set, v_setc, v_dictc, v_kw, v_comp0] at h
  | DictComp => simp -iota [v_c, v_n, v_bool, v_bin, v_not, v_neg, v_if, v_list, v_tup, v_cmp1, v_cmp2, v_call, v_meth, v_slc, v_sub, v_comp, v_star, v_set, v_setc, v_dictc, v_kw, v_comp0] at h
  | _ => exact .inl rfl

theorem ex_name (O : OrcOk prog w hB k o) {x : Str} {e : Expr} {q pos : Pos} : ExOk prog w hB k o (.Assign [.Name x q] e pos) := by
  intro sc env B hE W r s out A R T L h
  simp -iota only [w_ret, w_asg, w_aug, w_if, w_while, w_for, w_app, a_tt, a_t, a_n, a_nn, a_s, a_0, a_3] at h
  refine cps fun U J => ?_
  obtain ⟨r', h2, rfl⟩ := Option.map_eq_some_iff.mp h
  obtain ⟨p, hp, h3⟩ := Option.bind_eq_some_iff.mp h2
  refine J ?_; clear J U
  split at h3
  . rename_i hx
    refine' h3
    by_cases hf : ∃ l, fresh e = true /\ p = .lst l
    . obtain ⟨l, hf, rfl⟩ := hf
      have hs : slotOf e (.lst l) = .own l := by unfold slotOf; rw [hf]
      rw [hs]
      rcases swaps_of (env := env) (x := x) (q := q) (n := pos.line) hp with sw | ⟨_, _, _, _, _, rfl⟩
      . exact wpAny_Assign_Name (wpAny_mono (fresh_ok O R L.bare L.st hf hp) (fun v s₁ N => own_store T L hx N) fun y_ y_ e => e) sw
      . exact bs hf
    . have hs : slotOf e p = .pv p := by
        unfold slotOf
        cases hfe : fresh e with
        | false => rfl
        | true => cases p with
          | lst l => exact absurd ⟨l, hfe, rfl⟩ hf
          | _ => rfl
      rw [hs]
      rcases swaps_of (env := env) (x := x) (q := q) (n := pos.line) hp with sw | ⟨sw, elt, gens, cs, cp, rfl⟩
      . exact wpAny_Assign_Name (wpAny_mono (expr_ok O e sc env B W r s p A R L.bare L.st hp) (fun v s₁ N => pv_store T L hx N.1 N.2.1) fun y_ y_ e => e) sw
      . cases gens with
        | nil => simp -iota [v_c, v_n, v_bool, v_bin, v_not, v_neg, v_if, v_list, v_tup, v_cmp1, v_cmp2, v_call, v_meth, v_slc, v_sub, v_comp, v_star, v_set, v_setc, v_dictc, v_kw, v_comp0] at hp
        | cons g gs =>
          have ha := comp_zero hp
          obtain ⟨t, it, ifs, a⟩ := g
          simp -iota only at ha
          subst ha
          refine wpq (exec_Assign_Name_used _ _ _ _ sw) ?_
          refine wpAny_bind (wpAny_standAt (wpAny_bind ?_))
          show wpAny _ A (do let _ <- comprehension (.ListComp elt (⟨t, it, ifs, 0⟩ :: gs) cs cp) cs env _ (newList []) false (eval it env) (some (assign (.Name x q) env))) _ _ s
          have hesc : esc (.ListComp elt (⟨t, it, ifs, 0⟩ :: gs) cs cp) = esc elt := by simp -iota only [s_n, s_if, s_bool, s_list, s_tup, s_comp, s_call, s_meth, s_sub, s_bin, s_c, s_cmp, s_un]
          rw [hesc]
          refine wpAny_bind (wpAny_mono (comp_core (use := some (assign (.Name x q) env)) (Q := fun y_ s' => OutP hB B sc env W s (.next (up x (.pv p) (frz (esc elt) r))) .next s') (expr_ok O elt) (fun g y_ => ⟨expr_ok O _, fun c y_ => test_ok O c⟩) R L.bare L.st hp fun s₁ D C l hp' e1 rd y_ hC hD hDC hm => ?_)
            (fun y_ s' q => wpAny_pure (wpAny_pure q)) fun y_ y_ e => e)
          obtain ⟨m, hn⟩ := hm
          have free : ∀ b, VE B env W [] b -> b ≠ C := fun b v q => by
            subst q
            obtain ⟨o, ho⟩ := L.st.laid b v
            rw [hC] at ho; refine' ho
          have nP : ¬ Put sc env C := fun p => free C (put_ve p) rfl
          have L1 := L.next T (Step.of_ext e1) (L.st.ext e1.heap)
          have S1 : St hB (fun b => B b \/ b = C) sc env (Wm W (esc elt)) (frz (esc elt) r) s₁.heap := (L.st.frz (esc elt)).more e1.heap fun b hb => by
            subst hb; obtain ⟨o, _, _, ho, _⟩ := hn; exact ⟨hC, o, ho⟩
          show wpAny _ A (assign (.Name x q) env (.ref D)) _ _ _
          refine PySem.wpAny_assign_Name (wpAny_mono (put_pv T hx S1 (rd.less fun b v => ?_) L1.ent) (fun y_ s₂ b2 => ?_) fun y_ y_ e => e)
          . rcases v with (v | v) | v | v | ⟨y, _, v⟩
            . exact .inl (.inl v)
            . exact .inr v
            . exact .inl (.inr (.inl v))
            . exact .inl (.inr (.inr (.inl v)))
            . obtain ⟨g1, g2⟩ := wm_some v; exact .inl (.inr (.inr (.inr ⟨y, g1, g2⟩)))
          . refine ⟨m, hn.at' fun o e => b2.kept _ o nP e, fun h' sb => ⟨rfl, Wm W (esc elt), ?_, ?_⟩⟩
            . exact b2.st.chg (X := fun b => b = C) (fun b v => .inl v) (fun b o n e => sb.extBut b o n e) (fun b hb => by subst hb; exact ⟨.inr rfl, fun q => free b (.inr (.inl q)) rfl, fun y q => free b (.inr (.inr (.inl ⟨y, q⟩))) rfl⟩)
                fun b v hb => by subst hb; exact absurd rfl (free b (.inl v))
            . have nC : ∀ b o, s.heap.get? b = some o -> b ≠ C := fun b o e q => by subst q; rw [hC] at e; refine' e
              refine ⟨fun b o n e => sb.extBut b o (nC b o e) (b2.kept b o (fun p => n (.inl p)) (e1.heap b o e)), fun b o e => ?_, b2.os.trans e1.os, fun g => b2.gens (e1.gens g), fun y b q => .inl (wm_some q).2⟩
              obtain ⟨o', e'⟩ := put_alive b2.st b2.kept b o (e1.heap b o e)
              exact ⟨o', sb.extBut b o' (nC b o e) e'⟩
  . refine' h3

set_option tactic.hygienic true in
theorem ex_two (O : OrcOk prog w hB k o) {x y : Str} {e : Expr} {q q' pos : Pos} : ExOk prog w hB k o (.Assign [.Name x q, .Name y q'] e pos) := by
  intro sc env B hE W r s out A R T L h
  simp -iota only [w_ret, w_asg, w_aug, w_if, w_while, w_for, w_app, a_tt, a_t, a_n, a_nn, a_s, a_0, a_3] at h
  obtain ⟨r', h2, rfl⟩ := Option.map_eq_some_iff.mp h
  obtain ⟨p, hp, h3⟩ := Option.bind_eq_some_iff.mp h2
  . obtain ⟨i, rfl, h3⟩ := int_inv h3
    replace h3 : (if _ then _ else _) = some r' := h3
    split at h3
    . rename_i hc
      obtain ⟨hx, hy⟩ := hc
      refine' h3
      refine wpAny_Assign_two (wpAny_mono (expr_ok O e sc env B W r s _ A R L.bare L.st hp) (fun v s₁ q1 => ?_) fun y_ y_ e => e)
      obtain ⟨e1, rd, _⟩ := q1
      obtain ⟨t, rfl⟩ := rd
      have L1 := L.next T (Step.of_ext e1) (L.st.ext e1.heap)
      refine PySem.wpAny_assign_Name (wpAny_mono (put_pv T hx L1.st (p := .int i) rd_int L1.ent) (fun y_ s₂ b2 => ?_) fun y_ y_ e => e)
      have L2 := L1.next T (Step.of_bound b2) b2.st
      refine PySem.wpAny_assign_Name (wpAny_mono (put_pv T hy L2.st (p := .int i) rd_int L2.ent) (fun y_ s₃ b3 => ?_) fun y_ y_ e => e)
      exact ⟨rfl, W, b3.st, (Step.of_ext e1).trans ((Step.of_bound b2).trans (Step.of_bound b3))⟩
    . refine' h3

theorem assignF_tuple {ts : List Expr} {j : Nat} {q : Pos} {e : Expr} (hn : ∀ es j p, e ≠ .Tuple es j p) : assignF o sc [.Tuple ts j q] e r = (do let p <- ev o sc e r; bindT sc (.Tuple ts j q) p (frz (esc e) r)) := by
  refine' e <;> first | rfl | exact absurd rfl (hn _ _ _)

theorem ex_tup1 (O : OrcOk prog w hB k o) {ts : List Expr} {j : Nat} {e : Expr} {q pos : Pos} (hn : ∀ es j p, e ≠ .Tuple es j p) : ExOk prog w hB k o (.Assign [.Tuple ts j q] e pos) := by
  intro sc env B hE W r s out A R T L h
  simp -iota only [w_ret, w_asg, w_aug, w_if, w_while, w_for, w_app] at h
  rw [assignF_tuple hn] at h
  obtain ⟨r', h2, rfl⟩ := Option.map_eq_some_iff.mp h
  obtain ⟨p, hp, h3⟩ := Option.bind_eq_some_iff.mp h2
  refine Assign_Tuple (wpAny_mono (expr_ok O e sc env B W r s _ A R L.bare L.st hp) (fun v s₁ q1 => ?_) fun y_ y_ e => e) (by refine' e <;> rfl) (by refine' e <;> first | rfl | exact absurd rfl (hn _ _ _))
  obtain ⟨e1, rd, _⟩ := q1
  have L1 := L.next T (Step.of_ext e1) (L.st.ext e1.heap)
  refine wpAny_mono (bindT_ok R.handled T h3 (L1.st.frz (esc e)) (rd.less fun b => ve_wm.mp) L1.ent) (fun y_ s₂ b2 => ?_) fun y_ y_ e => e
  exact ⟨rfl, _, b2.st, ((Step.of_ext e1).sub fun y b q => (wm_some q).2).trans (Step.of_bound b2)⟩
end
end

section
open PySem PyProof.Rows

section
variable {prog : Program} {w : World} {A : Around} {s s₁ s' s'' : Shared} {hB hE : Heap} {B : Av} {sc cs : Scope} {env : Env} {W W' W'' : Own} {r r' : Internal.Loc} {o : Orc} {k : Nat}

noncomputable def upAll : List Str -> List PV -> Internal.Loc -> Internal.Loc
  | x :: xs, p :: ps, r => upAll xs ps (up x (.pv p) r)
  | _, _, r => r
theorem upAll_c {x : Str} {xs : List Str} {p : PV} {ps : List PV} {r : Internal.Loc} : upAll (x :: xs) (p :: ps) r = upAll xs ps (up x (.pv p) r) := rfl
theorem upAll_n {r : Internal.Loc} : upAll [] [] r = r := rfl
theorem names_c {x : Str} {q : Pos} {ts : List Expr} : namesOf (.Name x q :: ts) = x :: namesOf ts := rfl

theorem bindTs_up {ts : List Expr} {ps : List PV} {r r' : Internal.Loc} (h : bindTs sc ts ps r = some r') : r' = upAll (namesOf ts) ps r /\ (∀ x ∈ namesOf ts, storable sc x = true) /\ (namesOf ts).length = ts.length := by
  have H := bts h; clear h
  induction H with
  | nil => exact ⟨rfl, fun y_ h => absurd h List.not_mem_nil, rfl⟩
  | cons x q ts p ps r r' hx h ih => exact ⟨ih.1, List.forall_mem_cons.mpr ⟨hx, ih.2.1⟩, congrArg Nat.succ ih.2.2⟩

theorem names_ok (T : StorL hE sc env) {xs : List Str} : ∀ {ps : List PV} {vs : List Value} {r : Internal.Loc} {s : Shared}, xs.length = ps.length -> (∀ x ∈ xs, storable sc x = true) -> St hB B sc env W r s.heap -> RdL s.heap (VE B env W []) ps vs ->
    (∀ b o, hE.get? b = some o -> s.heap.get? b = some o) ->
    wpAny (model prog w) A (assignInOrder (xs.map fun n => bindName env n) vs) (fun y_ s' => Bound hE hB B sc env W (upAll xs ps r) s s') NoE s := by
  induction xs with
  | nil => exact fun y_ y_ S y_ en => wpAny_pure ⟨S, en, fun y_ y_ y_ e => e, rfl, fun g => g⟩
  | cons x xs ih =>
    intro ps vs r s h hx S rd en
    cases ps with
    | nil => exact nomatch h
    | cons p ps =>
      refine rlc rd fun v vs h1 h2 => ?_
      show wpAny _ A (do holding vs (bindName env x v); assignInOrder (xs.map fun n => bindName env n) vs) _ _ s
      refine wpAny_bind (wpAny_holding (wpAny_bindName (wpAny_mono (put_pv T (hx x List.mem_cons_self) S h1 en) (fun y_ s₁ b1 => ?_) fun y_ y_ e => e.elim)))
      exact wpAny_mono (ih (Nat.succ.inj h) (fun y hy => hx y (List.mem_cons_of_mem _ hy)) b1.st (h2.put b1.kept) b1.entry) (fun y_ s₂ b2 => b1.trans b2) fun y_ y_ e => e.elim

theorem RdL.reverse {h : Heap} {V : Av} : ∀ {ps : List PV} {vs : List Value}, RdL h V ps vs -> RdL h V ps.reverse vs.reverse
  | [], vs, x => by rw [RdL_nil.mp x]; exact RdL.nil
  | p :: ps, vs, x => by
    refine cps fun U J => ?_
    obtain ⟨v, vs, rfl, h1, h2⟩ := RdL_cons.mp x
    refine J ?_; clear J U
    rw [List.reverse_cons, List.reverse_cons]
    exact (RdL.reverse h2).append (RdL.cons h1 RdL.nil)

theorem upAll_rev {xs : List Str} {ps : List PV} (hl : xs.length = ps.length) (h23 : xs.length = 2 \/ xs.length = 3) (hn : xs.Nodup) : upAll xs.reverse ps.reverse r = upAll xs ps r := by
  rcases xs with _ | ⟨a, _ | ⟨b, _ | ⟨c, _ | ⟨d, xs⟩⟩⟩⟩
  . simp -iota at h23
  . simp -iota at h23
  . rcases ps with _ | ⟨p, _ | ⟨q, _ | ⟨t, ps⟩⟩⟩ <;> simp -iota at hl
    have hab : a ≠ b := by simpa -iota using hn
    funext y
    simp -iota only [List.reverse_cons, List.reverse_nil, List.nil_append, List.cons_append, upAll_c, upAll_n, up]
    by_cases h1 : y = a
    . subst h1; simp -iota [hab]
    . by_cases h2 : y = b
      . subst h2; simp -iota [h1]
      . simp -iota [h1, h2]
  . rcases ps with _ | ⟨p, _ | ⟨q, _ | ⟨t, _ | ⟨u, ps⟩⟩⟩⟩ <;> simp -iota at hl
    have hab : (a ≠ b /\ a ≠ c) /\ b ≠ c := by simpa -iota using hn
    obtain ⟨⟨hab, hac⟩, hbc⟩ := hab
    funext y
    simp -iota only [List.reverse_cons, List.reverse_nil, List.nil_append, List.cons_append, upAll_c, upAll_n, up]
    by_cases h1 : y = a
    . subst h1; simp -iota [hab, hac]
    . by_cases h2 : y = b
      . subst h2; simp -iota [h1, hbc]
      . by_cases h3 : y = c
        . subst h3; simp -iota [h1, h2]
        . simp -iota [h1, h2, h3]
  . simp -iota at h23

theorem swapped_names {f : Expr -> Option Str} (hf : ∀ t x, f t = some x -> ∃ q, t = .Name x q) : ∀ {ts : List Expr}, (ts.filterMap f).length = ts.length -> (namesOf ts).length = ts.length -> ts.filterMap f = namesOf ts
  | [], _, _ => rfl
  | t :: ts, h, h2 => by
    cases e : f t with
    | none =>
      rw [List.filterMap_cons_none e] at h
      have := List.length_filterMap_le f ts
      simp -iota at h; lia
    | some x =>
      obtain ⟨q, rfl⟩ := hf t x e
      rw [List.filterMap_cons_some e] at h ⊢
      simp -iota only [names_c, List.length_cons, Nat.add_right_cancel_iff] at h h2 ⊢
      rw [swapped_names hf h h2]

theorem swap_cases {ts es : List Expr} {j j' : Nat} {q q' : Pos} {ps : List PV} (_he : evs o sc es r = some ps) (hc : es.all (constantsAlone 8) = false) (hl : (namesOf ts).length = ts.length) :
    swappedStores [.Tuple ts j q] (.Tuple es j' q') env = pure Option.none \/ (swappedStores [.Tuple ts j q] (.Tuple es j' q') env = pure (some (namesOf ts))) := by
  unfold swappedStores
  dsimp only
  split
  . exact .inl rfl
  . split
    . exact .inl rfl
    . split
      . exact .inl rfl
      . rename_i hn
        split
        . exact .inl rfl
        . rw [hc]
          refine .inr ?_
          simp -iota only [Bool.false_eq_true, if_false]
          congr 2
          simp -iota only [Bool.or_eq_true, not_or, bne_iff_ne, ne_eq, Decidable.not_not] at hn
          refine swapped_names (fun t x hx => ?_) hn.1 hl
          refine' t <;> simp only [reduceCtorEq] at hx
          split at hx <;> refine' hx
          exact ⟨_, rfl⟩

theorem ex_tup2 (O : OrcOk prog w hB k o) {ts es : List Expr} {j j' : Nat} {q q' pos : Pos} : ExOk prog w hB k o (.Assign [.Tuple ts j q] (.Tuple es j' q') pos) := by
  intro sc env B hE W r s out A R T L h
  simp -iota only [w_ret, w_asg, w_aug, w_if, w_while, w_for, w_app, a_tt, a_t, a_n, a_nn, a_s, a_0, a_3] at h
  refine cps fun U J => ?_
  obtain ⟨r', h2, rfl⟩ := Option.map_eq_some_iff.mp h
  obtain ⟨ps, hps, h3⟩ := Option.bind_eq_some_iff.mp h2
  refine J ?_; clear J U
  have elen := evs_len hps
  split at h3
  . refine' h3
  rename_i h100
  split at h3
  . rename_i h23
    split at h3
    . rename_i hc
      refine cps fun U J => ?_
      obtain ⟨hcc, hnd⟩ := hc
      obtain ⟨b1, b2⟩ := bindTs_len h3
      obtain ⟨u1, u2, u3⟩ := bindTs_up h3
      refine J ?_; clear J U
      have hlen : ts.length = es.length := by lia
      have evT : wpAny (model prog w) A (eval (.Tuple es j' q') env) (fun v s₁ => ∃ a vs, v = .ref a /\ Ext s s₁ /\ s₁.heap.IsTuple a vs /\ RdL s₁.heap (VE B env (Wm W (esc.escs es)) []) ps vs.toList) NoE s := by
        refine wpAny_Tuple (wpAny_mono (evs_ok (fun e y_ => expr_ok O e) R L.bare L.st hps) (fun vs s₁ q => ?_) fun y_ y_ e => e)
        have L2 := q.2.length
        refine ⟨lt_wide (by simp -iota only [wide]; lia), s₁.heap.objs.size, vs.toArray, rfl, q.1.trans ext_push', ⟨_, Heap.get?_push_size _ rfl, rfl, _, rfl⟩, ?_⟩
        have : RdL s₁.heap (VE B env (Wm W (esc.escs es)) []) ps vs.toArray.toList := by simpa -iota using q.2.less fun b => ve_wm.mp
        exact this.gr Gr.push
      rcases swap_cases (env := env) (j := j) (j' := j') (q := q) (q' := q') hps hcc u3 with sw | sw
      . refine Assign_Tuple (wpAny_mono evT (fun v s₁ q1 => ?_) fun y_ y_ e => e) rfl sw
        refine cps fun U J => ?_
        obtain ⟨a, vs, rfl, e1, l1, rd⟩ := q1
        have L1 := L.next T (Step.of_ext e1) (L.st.ext e1.heap)
        obtain ⟨c1, c2⟩ := assignEach_names (env := env) b2
        refine J ?_; clear J U
        refine wpAny_assign_Tuple R.handled l1 (by rw [c1, b1]; simpa -iota using rd.length.symm) c2 fun h' hx => ?_
        have g : ∀ b o, s₁.heap.get? b = some o -> h'.get? b = some o := fun b o e => hx b o (Nat.ne_of_lt (Heap.lt_size e)) e
        have eh : Ext s₁ { s₁ with heap := h' } := Ext.of_heap (n := s₁.toks) g
        have S2 := (L1.st.frz (esc.escs es)).ext g
        refine wpAny_mono (bindTs_ok (s := { s₁ with heap := h' }) T h3 S2 (rd.gr (Gr.of_ext g)) fun b o e => g b o (L1.ent b o e)) (fun y_ s₂ b2 => ?_) fun y_ y_ e => e
        exact ⟨rfl, _, b2.st, ((Step.of_ext (e1.trans eh)).sub fun y b q => (wm_some q).2).trans (Step.of_bound b2)⟩
      . refine Assign_Tuple_swapped (wpAny_mono evT (fun v s₁ q1 => ?_) fun y_ y_ e => e) rfl sw
        refine cps fun U J => ?_
        obtain ⟨a, vs, rfl, e1, l1, rd⟩ := q1
        refine J ?_; clear J U
        have L1 := L.next T (Step.of_ext e1) (L.st.ext e1.heap)
        have hvl : vs.size = ps.length := by simpa -iota using rd.length
        have hn : (namesOf ts).length = vs.size := by lia
        rw [hn]
        refine unpackItems_tuple R.handled l1 fun h' hx => ?_
        have g : ∀ b o, s₁.heap.get? b = some o -> h'.get? b = some o := fun b o e => hx b o (Nat.ne_of_lt (Heap.lt_size e)) e
        have eh : Ext s₁ { s₁ with heap := h' } := Ext.of_heap (n := s₁.toks) g
        have S2 := (L1.st.frz (esc.escs es)).ext g
        refine wpAny_mono (names_ok (s := { s₁ with heap := h' }) (xs := (namesOf ts).reverse) (ps := ps.reverse) T (by simp; lia) (fun x hx => u2 x (List.mem_reverse.mp hx)) S2 (rd.gr (Gr.of_ext g)).reverse fun b o e => g b o (L1.ent b o e)) (fun y_ s₂ b2 => ?_) fun y_ y_ e => e
        have hr : r' = upAll (namesOf ts).reverse ps.reverse (frz (esc.escs es) r) := by rw [upAll_rev (by lia) (by lia) hnd]; exact u1
        rw [hr]
        exact ⟨rfl, _, b2.st, ((Step.of_ext (e1.trans eh)).sub fun y b q => (wm_some q).2).trans (Step.of_bound b2)⟩
    . refine' h3
  . rename_i h23
    obtain ⟨b1, b2⟩ := bindEach_len h3
    have hlen : ts.length = es.length := by lia
    have sw : swappedStores [.Tuple ts j q] (.Tuple es j' q') env = pure Option.none := by
      unfold swappedStores
      dsimp only
      rw [if_pos]
      have h2 : ¬ ts.length = 2 := by lia
      have h3 : ¬ ts.length = 3 := by lia
      simp -iota [h2, h3]
    refine Assign_Tuple ?_ rfl sw
    refine wpAny_Tuple (wpAny_mono (evsO_ok (fun e y_ => expr_ok O e) R L.bare L.st hps) (fun vs s₁ q => ?_) fun y_ y_ e => e)
    refine cps fun U J => ?_
    obtain ⟨e1, as, hn, hd, tv⟩ := q
    refine J ?_; clear J U
    have hvl := tv.len
    have L1 := L.next T (Step.of_ext e1) (L.st.ext e1.heap)
    refine ⟨?_, ?_⟩
    . exact lt_wide (by simp -iota only [wide]; lia)
    . have l1 : (s₁.heap.push { cls := .type "tuple", data := .seq vs.toArray }).IsTuple s₁.heap.objs.size vs.toArray := ⟨_, Heap.get?_push_size _ rfl, rfl, _, rfl⟩
      generalize hH : s₁.heap.push { cls := .type "tuple", data := .seq vs.toArray } = H at l1 ⊢
      have gH : ∀ b o, s₁.heap.get? b = some o -> H.get? b = some o := fun b o e => by rw [<- hH]; exact Heap.get?_push_of_some _ e
      obtain ⟨c1, c2⟩ := assignEach_names (env := env) b2
      refine wpAny_assign_Tuple (s := { s₁ with heap := H }) R.handled l1 (by rw [c1, b1]; simpa -iota using hvl.symm) c2 fun h' hx => ?_
      have g : ∀ b o, s₁.heap.get? b = some o -> h'.get? b = some o := fun b o e => hx b o (Nat.ne_of_lt (Heap.lt_size (gH b o e))) (gH b o e)
      have eh : Ext s₁ { s₁ with heap := h' } := Ext.of_heap (n := s₁.toks) g
      have e1' := e1.trans eh
      have free : ∀ a ∈ as, ∀ b, VE B env W [] b -> b ≠ a := fun a ha b v q => by
        subst q
        obtain ⟨o, ho⟩ := L.st.laid b v
        rw [(hn b ha).1] at ho; refine' ho
      have S2 : St hB (fun b => B b \/ b ∈ as) sc env (Wm W (esc.escs es)) (frz (esc.escs es) r) h' := (L.st.frz (esc.escs es)).more e1'.heap fun b hb => ⟨(hn b hb).1, let ⟨o, e⟩ := (hn b hb).2; ⟨o, g b o e⟩⟩
      have tv2 : TV h' (VE (fun b => B b \/ b ∈ as) env (Wm W (esc.escs es)) []) es ps vs as := tv.mono (Gr.of_ext g) (fun b o y_ v => by
        rcases v with (v | v) | v | v | ⟨y, _, v⟩
        . exact .inl (.inl v)
        . exact .inr v
        . exact .inl (.inr (.inl v))
        . exact .inl (.inr (.inr (.inl v)))
        . obtain ⟨g1, g2⟩ := wm_some v; exact .inl (.inr (.inr (.inr ⟨y, g1, g2⟩)))) fun a y_ o e => g a o e
      have L2 := L.next T (Step.of_ext e1') (L.st.ext e1'.heap)
      refine wpAny_mono (bindEach_ok (s := { s₁ with heap := h' }) T h3 S2 tv2 hd (fun a ha => ⟨fun q => free a ha a (.inl q) rfl, fun q => free a ha a (.inr (.inl q)) rfl, fun y q => free a ha a (.inr (.inr (.inl ⟨y, q⟩))) rfl, fun y q => free a ha a (.inr (.inr (.inr ⟨y, by simp, (wm_some q).2⟩))) rfl⟩) L2.ent) (fun y_ s₂ q2 => ?_) fun y_ y_ e => e
      refine cps fun U J => ?_
      obtain ⟨⟨W', S3, gr⟩, en, kp, ho, hg⟩ := q2
      refine J ?_; clear J U
      refine ⟨rfl, W', S3, fun b o n e => kp b o (fun p => n (.inl p)) (e1'.heap b o e), fun b o e => put_alive (s := { s₁ with heap := h' }) S3 kp b o (e1'.heap b o e), ho.trans e1'.os, fun g => hg (e1'.gens g), fun y b q => ?_⟩
      rcases gr y b q with q | q
      . exact .inl (wm_some q).2
      . exact .inr (hn b q).1
end
end

section
open PySem PyProof.Rows

section
variable {prog : Program} {w : World} {A : Around} {s s₁ s' s'' : Shared} {hB hE : Heap} {B : Av} {sc cs : Scope} {env : Env} {W W' W'' : Own} {r r' : Internal.Loc} {o : Orc} {k : Nat}

theorem vacS {st : Stmt} (h : ∀ sc r, Internal.exec o sc st r = Option.none) : ExOk prog w hB k o st := by
  intro sc env B hE W r s out A R T L q
  rw [h] at q; refine' q

theorem assign_vac {ts : List Expr} {e : Expr} {pos : Pos} (h : ∀ sc r, assignF o sc ts e r = Option.none) : ExOk prog w hB k o (.Assign ts e pos) :=
  vacS fun sc r => by simp only [w_ret, w_asg, w_aug, w_if, w_while, w_for, w_app, h, Option.map_none]

inductive AsF : List Expr -> Expr -> Prop
  | n (x : Str) (q : Pos) (e : Expr) : AsF [.Name x q] e
  | tt (ts : List Expr) (j : Nat) (q : Pos) (es : List Expr) (j' : Nat) (p : Pos) : AsF [.Tuple ts j q] (.Tuple es j' p)
  | t (ts : List Expr) (j : Nat) (q : Pos) (e : Expr) (h : ∀ es j' p, e ≠ .Tuple es j' p) : AsF [.Tuple ts j q] e
  | s (x : Str) (p : Pos) (i : Expr) (q : Pos) (e : Expr) : AsF [.Subscript (.Name x p) i q] e
  | nn (x : Str) (q : Pos) (y : Str) (q' : Pos) (e : Expr) : AsF [.Name x q, .Name y q'] e
set_option tactic.hygienic true in
theorem asf_sub {b i : Expr} {q : Pos} {e : Expr} {r' : Internal.Loc} : assignF o sc [.Subscript b i q] e r = some r' -> AsF [.Subscript b i q] e := by
  cases b <;> intros <;> first | exact AsF.s _ _ _ _ _ | (rename_i h; exact ns h)
set_option tactic.hygienic true in
theorem asf_1 {t e : Expr} {r' : Internal.Loc} : assignF o sc [t] e r = some r' -> AsF [t] e := by
  cases t <;> intros <;>
    first
    | exact AsF.n _ _ _
    | (rename_i h; exact asf_sub h)
    | (by_cases he : ∃ es j' p, e = .Tuple es j' p
       . obtain ⟨es, j', p, rfl⟩ := he; exact AsF.tt _ _ _ _ _ _
       . exact AsF.t _ _ _ _ fun es j' p h => he ⟨es, j', p, h⟩)
    | (rename_i h; exact ns h)
set_option tactic.hygienic true in
theorem asf_n {x : Str} {q : Pos} {t e : Expr} {r' : Internal.Loc} : assignF o sc [.Name x q, t] e r = some r' -> AsF [.Name x q, t] e := by
  cases t <;> intros <;> first | exact AsF.nn _ _ _ _ _ | (rename_i h; exact ns h)
theorem asf_s0 {b i t e : Expr} {q : Pos} : assignF o sc [.Subscript b i q, t] e r = Option.none := by
  cases b <;> intros <;> rfl
set_option tactic.hygienic true in
theorem asf_2 {t t' e : Expr} {r' : Internal.Loc} : assignF o sc [t, t'] e r = some r' -> AsF [t, t'] e := by
  cases t <;> intros <;> rename_i h <;> first | exact asf_n h | exact ns (asf_s0.symm.trans h) | exact ns h
theorem asf {ts : List Expr} {e : Expr} {r' : Internal.Loc} (h : assignF o sc ts e r = some r') : AsF ts e := by
  rcases ts with _ | ⟨t, _ | ⟨t', _ | ⟨t'', ts⟩⟩⟩
  . exact ns (a_0.symm.trans h)
  . exact asf_1 h
  . exact asf_2 h
  . exact ns (a_3.symm.trans h)
inductive StF : Stmt -> Prop
  | ret (e : Expr) (p : Pos) : StF (.Return (some e) p)
  | ifs (t : Expr) (a b : List Stmt) (p : Pos) : StF (.If t a b p)
  | whi (t : Expr) (a : List Stmt) (p : Pos) : StF (.While t a [] p)
  | fo (t i : Expr) (a : List Stmt) (p : Pos) : StF (.For t i a [] p)
  | aug (x : Str) (q : Pos) (op : Operator) (e : Expr) (p : Pos) : StF (.AugAssign (.Name x q) op e p)
  | app (x m : Str) (q ap p p' : Pos) (a : Expr) : StF (.Expr (.Call (.Attribute (.Name x q) m ap) [a] [] p) p')
  | asg (ts : List Expr) (e : Expr) (p : Pos) (h : AsF ts e) : StF (.Assign ts e p)
set_option tactic.hygienic true in
theorem stf_attr {b : Expr} {m : Str} {ap p p' : Pos} {as : List Expr} {ks : List Keyword} {out : Out} : Internal.exec o sc (.Expr (.Call (.Attribute b m ap) as ks p) p') r = some out -> StF (.Expr (.Call (.Attribute b m ap) as ks p) p') := by
  cases b <;> intros <;> rename_i h <;> first
    | exact ns h
    | (rcases as with _ | ⟨a, _ | ⟨a', as⟩⟩
       . exact ns h
       . rcases ks with _ | ⟨k, ks⟩
         . exact .app _ _ _ _ _ _ _
         . exact ns h
       . exact ns h)
set_option tactic.hygienic true in
theorem stf_call {f : Expr} {p p' : Pos} {as : List Expr} {ks : List Keyword} {out : Out} : Internal.exec o sc (.Expr (.Call f as ks p) p') r = some out -> StF (.Expr (.Call f as ks p) p') := by
  cases f <;> intros <;> rename_i h <;> first | exact ns h | exact stf_attr h
set_option tactic.hygienic true in
theorem stf_expr {e : Expr} {p' : Pos} {out : Out} : Internal.exec o sc (.Expr e p') r = some out -> StF (.Expr e p') := by
  cases e <;> intros <;> rename_i h <;> first | exact ns h | exact stf_call h
set_option tactic.hygienic true in
theorem stf_aug {t e : Expr} {op : Operator} {p' : Pos} {out : Out} : Internal.exec o sc (.AugAssign t op e p') r = some out -> StF (.AugAssign t op e p') := by
  cases t <;> intros <;> rename_i h <;> first | exact ns h | exact .aug _ _ _ _ _
set_option tactic.hygienic true in
theorem stf {st : Stmt} {out : Out} : Internal.exec o sc st r = some out -> StF st := by
  cases st <;> intros <;> rename_i h <;> first
    | exact ns h
    | exact stf_expr h
    | exact stf_aug h
    | exact .ifs _ _ _ _
    | (obtain ⟨r', h, _⟩ := Option.map_eq_some_iff.mp h; exact .asg _ _ _ (asf h))
    | (rename_i l _; rcases l with _ | ⟨a, l⟩; exact .whi _ _ _; exact ns h)
    | (rename_i l _; rcases l with _ | ⟨a, l⟩; exact .fo _ _ _ _; exact ns h)
    | (rename_i l _; rcases l with _ | e; exact ns h; exact .ret _ _)

theorem stmt_all (O : OrcOk prog w hB k o) : ∀ (n : Nat) (st : Stmt), sizeOf st < n -> ExOk prog w hB k o st := by
  intro n
  induction n with
  | zero => intro e h; exact absurd h (Nat.not_lt_zero _)
  | succ n ih =>
    intro st hs
    have many : ∀ {b : List Stmt}, sizeOf b < n + 1 -> ExsOk prog w hB k o b := by
      intro b
      induction b with
      | nil => intro _; exact exs_nil
      | cons s b ihb =>
        intro hl
        simp only [List.cons.sizeOf_spec] at hl
        exact exs_cons (ih s (q1 (s_l hl))) (ihb (s_r hl))
    have step : StF st -> ExOk prog w hB k o st := fun H => by
      induction H with
      | ret => exact ex_return O
      | ifs t a b p =>
        simp only [Stmt.If.sizeOf_spec] at hs
        exact ex_if O (many (s_r (s_l (s_l hs)))) (many (s_r (s_l hs)))
      | whi t a p =>
        simp only [Stmt.While.sizeOf_spec] at hs
        exact ex_while O (many (s_r (s_l (s_l hs))))
      | fo t i a p =>
        simp only [Stmt.For.sizeOf_spec] at hs
        exact ex_for O (many (s_r (s_l (s_l hs))))
      | aug => exact ex_aug O
      | app => exact ex_append O
      | asg ts e p h =>
        clear hs
        induction h with
        | n => exact ex_name O
        | tt => exact ex_tup2 O
        | t ts j q e h => exact ex_tup1 O h
        | s => exact ex_setitem O
        | nn => exact ex_two O
    intro sc env B hE W r s out A R T L h
    exact step (stf h) sc env B hE W r s out A R T L h

theorem stmts_ok (O : OrcOk prog w hB k o) : ∀ (b : List Stmt), ExsOk prog w hB k o b
  | [] => exs_nil
  | s :: b => exs_cons (stmt_all O _ s (Nat.lt_succ_self _)) (stmts_ok O b)
end
end

section
open PySem PyProof.Rows

section
variable {prog : Program} {w : World} {A : Around} {s s₁ s' s'' : Shared} {hB hE : Heap} {B : Av} {sc cs : Scope} {env : Env} {W W' W'' : Own} {r r' : Internal.Loc} {o : Orc} {k : Nat}

structure FnAt (prog : Program) (w : World) (hB : Heap) (f : Str) (names : List Str) (body : List Stmt) (sc : Scope) (a : Addr) (ob : Obj) (fd : FuncData) : Prop where
  name : GName prog w hB f (.ref a)
  at_ : hB.get? a = some ob
  data : ob.data = .func fd
  body : fd.body = .stmts body
  scope : fd.scope = sc
  globals : fd.globals = mainGlobals
  builtins : fd.builtins = builtinsNs
  closure : fd.closure = []
  code : hB.CodeRec fd.code fd.qualname
  lim : hB.NoLimit
  bind : ∀ vals : List Value, vals.length = names.length -> bindArgs fd ⟨vals, []⟩ = pure (names.zip vals)

noncomputable def okScope (sc : Scope) (names : List Str) : Bool := sc.kind == .function && !sc.isCoroutine && !sc.isGenerator && sc.names.all (fun x => x.1 != "__debug__" && x.2 != .free) && names.all (fun n => kd sc n == some .local || kd sc n == some .cell)

noncomputable def callF (o : Orc) (names : List Str) (body : List Stmt) (sc : Scope) (as : List PV) : Option PV :=
  if as.length = names.length then match Internal.execs o sc body (upAll names as fun y_ => Option.none) with
    | some (.ret p) => some p
    | _ => Option.none
  else Option.none

theorem bind_rel {h : Heap} {V : Av} {kf : Str -> Option NameKind} : ∀ {names : List Str} {as : List PV} {vs : List Value} {m cm : Str -> Option Value} {r : Internal.Loc}, as.length = names.length -> RdL h V as vs ->
    (∀ x sl, r x = some sl -> ∃ p v, sl = .pv p /\ (if kf x = some .local then m x else cm x) = some v /\ Rd h V p v) ->
    ∀ x sl, upAll names as r x = some sl -> ∃ p v, sl = .pv p /\ (if kf x = some .local then bindL kf (names.zip vs) m x else bindC kf (names.zip vs) cm x) = some v /\ Rd h V p v
  | [], [], vs, m, cm, r, _, rd, H => by
    rw [RdL_nil.mp rd]
    exact H
  | [], _ :: _, _, _, _, _, hl, _, _ => by simp at hl
  | _ :: _, [], _, _, _, _, hl, _, _ => by simp at hl
  | n :: names, p :: as, vs, m, cm, r, hl, rd, H => by
    refine cps fun U J => ?_
    obtain ⟨v, vs, rfl, h1, h2⟩ := RdL_cons.mp rd
    refine J ?_; clear J U
    refine bind_rel (names := names) (as := as) (by simpa using hl) h2 fun x sl hx => ?_
    by_cases hxn : x = n
    . subst hxn
      simp only [up, if_true] at hx
      refine' hx
      refine ⟨p, v, rfl, ?_, h1⟩
      split <;> rename_i hk <;> simp [hk]
    . simp only [up, if_neg hxn] at hx
      refine cps fun U J => ?_
      obtain ⟨q, u, e1, e2, e3⟩ := H x sl hx
      refine J ?_; clear J U
      refine ⟨q, u, e1, ?_, e3⟩
      split at e2 <;> rename_i hk <;> simp only [hk, if_true, if_false] <;> (split <;> first | exact e2 | (simp only [hxn, if_false]; exact e2))

theorem fn_ok {f : Str} {names : List Str} {body : List Stmt} {a : Addr} {ob : Obj} {fd : FuncData} (O : OrcOk prog w hB k o) (F : FnAt prog w hB f names body sc a ob fd) (hs : okScope sc names = true) : FnOk prog w hB (k + 1) f (callF o names body sc) := by
  refine ⟨a, ob, fd, F.name, F.at_, F.data, fun as p hF A V s vs R hBs LV VB G rd => ?_⟩
  unfold callF at hF
  split at hF
  . rename_i hlen
    unfold okScope at hs
    simp only [Bool.and_eq_true, beq_iff_eq, Bool.not_eq_true', List.all_eq_true, bne_iff_ne, ne_eq, Bool.or_eq_true] at hs
    refine cps fun U J => ?_
    obtain ⟨⟨⟨⟨hk, hco⟩, hge⟩, hnm⟩, hpar⟩ := hs
    refine J ?_; clear J U
    have hvl := rd.length
    have kf : ∀ x, (callEnvC fd s.heap.objs.size a).kindOf x = kd sc x := fun x => by
      show fd.scope.names.lookup x = _
      rw [F.scope]; rfl
    have noFree : ∀ x, kd sc x ≠ some .free := fun x q => (hnm _ (mem_of_kd q)).2 rfl
    have nL : s.heap.get? s.heap.objs.size = Option.none := size_free _
    have base0 := newCells_aux sc.names (s.heap.push { cls := .type "frame", data := .dict #[] }) [] (s.heap.objs.size + 1) (by rw [Heap.size_push]; exact Nat.le_refl _) (fun y_ y_ h => by refine' h) (fun y_ y_ h => by refine' h) (fun y_ y_ y_ y_ h => by refine' h)
    rw [Heap.size_push] at base0
    refine cps fun U J => ?_
    obtain ⟨_, _, cellIs, _⟩ := base0
    refine J ?_; clear J U
    have cellSome : ∀ x, kd sc x = some .cell -> ∃ c, (cellsFrom (s.heap.objs.size + 1) fd.scope.names []).lookup x = some c := fun x q => by
      rw [F.scope]
      obtain ⟨c, h, _⟩ := cellIs x (mem_of_kd q)
      exact ⟨c, h⟩
    refine wpAny_call (codeAny_call_cells (binds := names.zip vs) (Nat.lt_of_le_of_lt (Nat.le_add_right _ _) (Nat.lt_trans R.depth (by decide))) (hBs _ _ F.at_) F.data ?_ (F.code.keeps hBs) F.body (F.bind vs (by first | exact hvl.symm.trans hlen | exact hvl.trans hlen)) F.closure (fun x hx => ?_) (fun s₁ X => ?_) (by rw [F.scope]; exact hco) (by rw [F.scope]; exact hge) (by rw [F.scope]; exact hk))
    . exact F.lim.keeps hBs
    . have hm := hpar x.1 (List.of_mem_zip hx).1
      rw [F.scope]
      rcases hm with hm | hm
      . exact .inl hm
      . refine .inr ⟨hm, ?_⟩
        obtain ⟨c, hc⟩ := cellSome x.1 hm
        rw [F.scope] at hc
        rw [hc]; rfl
    . obtain ⟨h₁, tk, hs1⟩ := X.toInCall.same
      have keep := X.toInCall.keep
      have nsz : ∀ b o, s.heap.get? b = some o -> b < s.heap.objs.size := fun b o e => Heap.lt_size e
      have cells : ∀ x c, (callEnvC fd s.heap.objs.size a).cells.lookup x = some c -> s.heap.objs.size < c := fun x c h => X.above x c (mem_of_lookup h)
      have noneC : ∀ c, s.heap.objs.size < c -> s.heap.get? c = Option.none := fun c h => Heap.get?_none_of_le (Nat.le_of_lt h)
      have noneB : ∀ b, s.heap.get? b = Option.none -> hB.get? b = Option.none := fun b h => by
        cases e : hB.get? b with
        | none => rfl
        | some o => rw [hBs b o e] at h; refine' h
      have rel := bind_rel (h := s₁.heap) (V := VE V (callEnvC fd s.heap.objs.size a) (fun y_ => Option.none) []) (kf := (callEnvC fd s.heap.objs.size a).kindOf) (names := names) (m := fun y_ => Option.none) (cm := fun y_ => Option.none) (r := fun y_ => Option.none) hlen (rd.mono (Gr.of_ext keep) fun b o e v => by
        rcases v with v | v | ⟨x, v⟩ | ⟨x, _, v⟩
        . exact v
        . subst v; rw [show (callEnvC fd s.heap.objs.size a).locals = s.heap.objs.size from rfl, nL] at e; refine' e
        . rw [noneC _ (cells x b v)] at e; refine' e
        . refine' v) (fun y_ y_ e => by refine' e)
      have S1 : St hB V sc (callEnvC fd s.heap.objs.size a) (fun y_ => Option.none) (upAll names as fun y_ => Option.none) s₁.heap := by
        refine ⟨⟨?_, F.globals, F.builtins⟩, fun x => .inl (kf x), fun x h => ?_, fun x q h => ?_, fun b o e => keep b o (hBs b o e), fun b v => ?_, fun b v => ?_, fun x a h => (by refine' h), ?_, fun x hx => ?_⟩
        . show fd.scope.kind = _; rw [F.scope]; exact hk
        . rw [kf] at h; exact absurd h (noFree x)
        . have := (hnm _ (mem_of_kd h)).1
          simpa using this
        . rcases v with v | v | ⟨x, v⟩ | ⟨x, _, v⟩
          . obtain ⟨o, e⟩ := LV b v; exact ⟨o, keep b o e⟩
          . subst v; obtain ⟨o, _, _, e, _⟩ := X.toInCall.ns; exact ⟨o, e⟩
          . obtain ⟨o, e, _⟩ := X.cell x b v; exact ⟨o, e⟩
          . refine' v
        . rcases v with v | v | ⟨x, v⟩ | ⟨x, _, v⟩
          . exact VB b v
          . subst v; exact noneB _ nL
          . exact noneB _ (noneC _ (cells x b v))
          . refine' v
        . refine ⟨_, X.toInCall.ns, fun x sl hx e => ?_⟩
          refine cps fun U J => ?_
          obtain ⟨p, v, rfl, e2, e3⟩ := rel x sl e
          refine J ?_; clear J U
          rw [kf, if_pos hx] at e2
          exact ⟨v, e2, e3⟩
        . rcases hx with hx | hx
          . obtain ⟨c, hc⟩ := cellSome x hx
            refine ⟨c, hc, _, X.cell x c hc, fun sl e => ?_⟩
            obtain ⟨p, v, rfl, e2, e3⟩ := rel x sl e
            rw [kf, if_neg (by rw [hx]; exact fun h => by refine' h)] at e2
            exact ⟨v, e2, e3⟩
          . exact absurd hx (noFree x)
      have T1 : StorL s.heap sc (callEnvC fd s.heap.objs.size a) := ⟨nL, fun x c y_ h => noneC c (cells x c h), fun x c h => Nat.ne_of_gt (cells x c h), fun x y c y_ h1 h2 => name_of_addr X.apart (mem_of_lookup h1) (mem_of_lookup h2)⟩
      have gens1 : s₁.gens = s.gens := by rw [hs1]
      have os1 : s₁.os = s.os := by rw [hs1]
      have Lv : Live s.heap hB V sc (callEnvC fd s.heap.objs.size a) (fun y_ => Option.none) (upAll names as fun y_ => Option.none) s₁ := ⟨S1, keep, fun y_ y_ h => (by refine' h), by rw [gens1]; exact G⟩
      have R1 : Room k (A.deeper (callEnvC fd s.heap.objs.size a)) := ⟨R.handled, R.in1.1, R.in1.2⟩
      cases e : Internal.execs o sc body (upAll names as fun y_ => Option.none) with
      | none => rw [e] at hF; refine' hF
      | some out =>
        rw [e] at hF
        cases out with
        | next r => refine' hF
        | ret q =>
          refine' hF
          refine wpAny_mono (stmts_ok O body sc _ V s.heap _ _ s₁ _ _ R1 T1 Lv e) (fun fl s₂ q2 => ?_) fun y_ y_ e => e.elim
          obtain ⟨v, rfl, rdv, st⟩ := q2
          refine ⟨⟨fun b o e => st.kept b o (fun m => ?_) (keep b o e), st.os.trans os1, fun g => st.gens (by rw [gens1]; exact g)⟩, rdv⟩
          have hb := nsz b o e
          rcases m with (rfl | ⟨x, _, h⟩) | ⟨x, h⟩
          . exact Nat.lt_irrefl _ hb
          . exact Nat.lt_asymm hb (cells x b h)
          . refine' h
  . refine' hF
end
end

section
open PySem PySem.W PyProof.Rows

theorem boot_left {q : Program} (hb : q.main.body = []) (hmore : q.main.more = []) (w : World) :
    (∃ s, AfterRun q w s) /\ ∀ s, AfterRun q w s -> ∃ mb mg c Pl, BootLeft9 q s.heap mb mg c Pl /\ s.gens = #[] := by
  have H : BodyOk9 q w (fun s => ∃ mb mg c Pl, BootLeft9 q s.heap mb mg c Pl /\ s.gens = #[]) := by
    intro h tk mb mg c Pl F hB
    rw [hb]
    refine codeAny_body rfl rfl (wpAny_execs_nil ?_)
    exact ⟨⟨_, rfl⟩, .of hB.toBootLeft (fun y_ y_ y_ y_ e => e) hB.g, ⟨mb, mg, c, Pl, hB, rfl⟩, rfl⟩
  exact AfterImport.of_body9 H hmore

theorem runs_through {p : Program} {w : World} {t : Sem Fin} {c : Code} {s : Shared} {P : Shared -> Prop} (hz : s.asleep)
    (h : Sem.wp (model p w) ⟨c, Option.none, Option.none, [], Option.none⟩ t (fun fin y_ s' => (∃ f, fin = .done f) /\ P s' /\ s'.gens = #[]) (fun y_ y_ y_ => False) default s) :
    ∃ n s' t', schedN (denote table) p w n (.single s ⟨t, c, default, []⟩) = .running (.single s' t') /\ W.through t' = true /\ P s' /\ s'.gens = #[] /\ s'.heap.life = s.heap.life := by
  have h1 : Sem.wp (model p w) ⟨c, Option.none, Option.none, [], Option.none⟩ t (Sem.finPost (model p w) ⟨c, Option.none, Option.none, [], Option.none⟩ fun r s' => True /\ leftWithCleanup s'.gens = false) (fun e y_ s' => True /\ leftWithCleanup s'.gens = false) default s := by
    refine Sem.wp_mono _ _ _ (fun fin p' s' x => ?_) (fun y_ y_ y_ x => x.elim) _ _ h
    refine cps fun U J => ?_
    obtain ⟨⟨f, rfl⟩, _, hg⟩ := x
    refine J ?_; clear J U
    exact ⟨trivial, by rw [hg]; simp -iota [leftWithCleanup]⟩
  refine cps fun U J => ?_
  obtain ⟨n, r, s', hn, _⟩ := (wp_iff_halts t (fun y_ y_ => True) default s).mp h1
  obtain ⟨s'', hr, hf, hc⟩ := runNI_real _ _ _ hn (outcomeOf_ends r)
  refine J ?_; clear J U
  have hne : ∀ k s₂, runN (denote table) p w k s ⟨t, c, default, []⟩ ≠ .halted (.unsupported "lifetime:generator-with-cleanup-left-suspended") s₂ := by
    intro k s₂ hk
    have a := runN_mono (denote table) p w n k s _ _ s'' hr
    have b := runN_mono (denote table) p w k n s _ _ s₂ hk
    rw [Nat.add_comm, b] at a
    injection a with a1 _
    have := outcomeOf_ends r
    rw [<- a1] at this
    cases this
  refine cps fun U J => ?_
  obtain ⟨m, s2, σ, p', leaf, hr2, hfo, hl⟩ := wp_reaches (M := model p w) h
  refine J ?_; clear J U
  rcases hl with ⟨a, rfl, ⟨f, rfl⟩, hP, hg⟩ | ⟨e, _, hF⟩
  . obtain rfl := Shared.eq_of_forget_eq hfo hg
    refine ⟨m, σ, _, ((schedN_eq_runN (denote table) p w s _ hz ⟨hc, hne⟩ m).trans (congrArg Run.lift hr2)), rfl, hP, hg, runN_life_running hr2⟩
  . exact hF.elim
end

section
open PySem PySem.W PyProof.Rows

noncomputable def Holds1 (Pl : PySem.Addr) (P : Heap -> Value -> Prop) : Prop := ∀ h h' v, (∀ b o, b ≠ Pl -> b ≠ mainGlobals -> h.get? b = some o -> h'.get? b = some o) -> P h v -> P h' v

structure Tp (h₀ : Heap) (mg₀ : Str -> Option Value) (c Pl : Addr) (h : Heap) (mg : Str -> Option Value) (ps : Array Value) (F : List (Str × (Heap -> Value -> Prop))) : Prop where
  main : h.Main mg c Pl ps
  keep : ∀ b o, b ≠ Pl -> b ≠ mainGlobals -> h₀.get? b = some o -> h.get? b = some o
  held : ∀ p ∈ F, ∃ v, mg p.1 = some v /\ p.2 h v
  still : ∀ p ∈ F, Holds1 Pl p.2
  others : ∀ x : Str, x ∉ F.map (·.1) -> x ≠ "__name__" -> mg x = mg₀ x
  own : ("__name__" : Str) ∉ F.map (·.1)

section
variable {M : Model} {A : Around} {E : Value -> Shared -> Prop} {s : Shared} {prog : Program} {c Pl Fr : Addr} {h₀ : Heap} {mg₀ mg : Str -> Option Value} {ps : Array Value} {F : List (Str × (Heap -> Value -> Prop))} {Q : Flow -> Shared -> Prop}

theorem Tp.bind {h' : Heap} {ps' : Array Value} {x : Str} {v : Value} {P : Heap -> Value -> Prop} (X : Tp h₀ mg₀ c Pl s.heap mg ps F) (hnew : x ∉ F.map (·.1)) (hx : x ≠ "__name__")
    (hm : h'.Main (fun y => if y = x then some v else mg y) c Pl ps') (keep : ∀ b o, b ≠ Pl -> b ≠ mainGlobals -> s.heap.get? b = some o -> h'.get? b = some o) (hP : P h' v) (hS : Holds1 Pl P) :
    Tp h₀ mg₀ c Pl h' (fun y => if y = x then some v else mg y) ps' ((x, P) :: F) := by
  refine ⟨hm, fun b o n1 n2 e => keep b o n1 n2 (X.keep b o n1 n2 e), fun p hp => ?_, fun p hp => ?_, fun y hy hn => ?_, fun h => ?_⟩
  . rcases List.mem_cons.mp hp with rfl | hp
    . exact ⟨v, if_pos rfl, hP⟩
    . obtain ⟨u, e, q⟩ := X.held p hp
      have ne : p.1 ≠ x := fun e => hnew (List.mem_map.mpr ⟨p, hp, e⟩)
      exact ⟨u, by simp only [if_neg ne]; exact e, X.still p hp _ _ _ keep q⟩
  . rcases List.mem_cons.mp hp with rfl | hp
    . exact hS
    . exact X.still p hp
  . simp only [List.map_cons, List.mem_cons, not_or] at hy
    simp only [if_neg hy.1]
    exact X.others y hy.2 hn
  . simp only [List.map_cons, List.mem_cons] at h
    rcases h with h | h
    . exact hx h.symm
    . exact X.own h

theorem Tp.name {h' : Heap} {ps' : Array Value} {v : Value} (X : Tp h₀ mg₀ c Pl s.heap mg ps F)
    (hm : h'.Main (fun y => if y = "__name__" then some v else mg y) c Pl ps') (keep : ∀ b o, b ≠ Pl -> b ≠ mainGlobals -> s.heap.get? b = some o -> h'.get? b = some o) :
    Tp h₀ mg₀ c Pl h' (fun y => if y = "__name__" then some v else mg y) ps' F := by
  refine ⟨hm, fun b o n1 n2 e => keep b o n1 n2 (X.keep b o n1 n2 e), fun p hp => ?_, X.still, fun y hy hn => ?_, X.own⟩
  . obtain ⟨u, e, q⟩ := X.held p hp
    have ne : p.1 ≠ "__name__" := fun e => X.own (List.mem_map.mpr ⟨p, hp, e⟩)
    exact ⟨u, by simp only [if_neg ne]; exact e, X.still p hp _ _ _ keep q⟩
  . simp only [if_neg hn]
    exact X.others y hy hn

noncomputable def FnV (Pl : Addr) (name : Str) (params : Arguments) (body : List Stmt) (scope : Scope) : Heap -> Value -> Prop := fun h v =>
  ∃ a pm c', v = .ref a /\ a ≠ Pl /\ a ≠ mainGlobals /\ c' ≠ Pl /\ c' ≠ mainGlobals /\ h.get? a = some { cls := .type "function", data := .func (plainDef name params body scope pm (.ref c')) } /\ h.CodeRec (.ref c') name

theorem fnV_still {name : Str} {params : Arguments} {body : List Stmt} {scope : Scope} : Holds1 Pl (FnV Pl name params body scope) := by
  rintro h h' v k ⟨a, pm, c', rfl, n1, n2, n3, n4, e, r⟩
  exact ⟨a, pm, c', rfl, n1, n2, n3, n4, k _ _ n1 n2 e, r.at fun o => k _ o n3 n4⟩

theorem tp_def {name : Str} {params : Arguments} {body : List Stmt} {scope : Scope} {pos : Pos} (X : Tp h₀ mg₀ c Pl s.heap mg ps F)
    (hexec : PlainDefTree name params body scope pos) (hfree : ∀ x ∈ scope.names, x.2 ≠ .free) (hdoc : docOf body = none) (hloc : prog.main.scope.names.lookup name = some .local)
    (hq : qualnameIn { scope := prog.main.scope, locals := mainGlobals, globals := mainGlobals, cells := [] } name name = name) (hnew : name ∉ F.map (·.1)) (hx : name ≠ "__name__")
    (hnb : name ≠ "__builtins__") (hmod : prog.main.scope.kind = .module) (hnf : codeAmong pos ps.toList = none)
    (k : ∀ h' mg' c' tk, Tp h₀ mg₀ c Pl h' mg' (ps ++ #[rawInt pos.line, rawInt pos.col, .ref c']) ((name, FnV Pl name params body scope) :: F) -> Q .next { s with heap := h', toks := tk }) :
    wpAny M A (PySem.exec (.FunctionDef name params body [] none [] scope none name pos) (mainEnv prog c Fr)) Q E s := by
  refine wpAny_plainDefN hexec hfree hdoc hloc hq X.main (fun a c' h' tk ha hm hf hcd y_ keep => ?_) hnb hmod hnf
  have hPl : Pl < s.heap.objs.size := X.main.code.lt.2
  have hG : mainGlobals < s.heap.objs.size := Nat.lt_trans X.main.low.2 hPl
  exact k h' _ c' tk (X.bind hnew hx hm keep ⟨a, _, c', rfl, Nat.ne_of_gt (Nat.lt_of_lt_of_le hPl ha), Nat.ne_of_gt (Nat.lt_of_lt_of_le hG ha), Nat.ne_of_gt (Nat.lt_of_lt_of_le hPl hcd.1), Nat.ne_of_gt (Nat.lt_of_lt_of_le hG hcd.1), hf, hcd.2⟩ fnV_still)

theorem Tp.grown {h₁ : Heap} (X : Tp h₀ mg₀ c Pl s.heap mg ps F) (hk : ∀ b o, s.heap.get? b = some o -> h₁.get? b = some o) : Tp h₀ mg₀ c Pl h₁ mg ps F := by
  refine cps fun U J => ?_
  obtain ⟨bm, o, hbm, hne0, hneG, hneP, hbo, hrest⟩ := X.main.bmod
  refine J ?_; clear J U
  exact ⟨⟨X.main.g.keeps hk, X.main.code.keeps hk, X.main.low, ⟨bm, o, hbm, hne0, hneG, hneP, hk _ _ hbo, hrest⟩⟩, fun b o n1 n2 e => hk b o (X.keep b o n1 n2 e),
    fun p hp => let ⟨v, e, q⟩ := X.held p hp; ⟨v, e, X.still p hp _ _ _ (fun b o y_ y_ e => hk b o e) q⟩, X.still, X.others, X.own⟩

theorem main_set {x : Str} {v : Value} {h h' : Heap} (m : h.Main mg c Pl ps) (hnb : x ≠ "__builtins__") (hg' : h'.Ns mainGlobals (fun y => if y = x then some v else mg y)) (hs' : Heap.SameBut mainGlobals h h') :
    h'.Main (fun y => if y = x then some v else mg y) c Pl ps := by
  refine cps fun U J => ?_
  obtain ⟨bm, o, hbm, hne0, hneG, hneP, hbo, hrest⟩ := m.bmod
  refine J ?_; clear J U
  exact ⟨hg', m.code.sameBut hs' (Nat.ne_of_gt m.low.1) (Nat.ne_of_gt m.low.2), m.low, ⟨bm, o, by simp only [Ne.symm hnb, if_false]; exact hbm, hne0, hneG, hneP, (hs'.2 _ hneG).trans hbo, hrest⟩⟩

theorem tp_assign {x : Str} {pos' pos : Pos} {value : Expr} {P : Heap -> Value -> Prop} (X : Tp h₀ mg₀ c Pl s.heap mg ps F) (hloc : prog.main.scope.names.lookup x = some .local) (hnew : x ∉ F.map (·.1)) (hx : x ≠ "__name__")
    (hnb : x ≠ "__builtins__") (hmod : prog.main.scope.kind = .module) (hS : Holds1 Pl P)
    (hsw : swapsWith value (some (.Name x pos')) pos.line (mainEnv prog c Fr) = pure false)
    (hval : ∀ Q' : Value -> Shared -> Prop, (∀ v h₁ tk, (∀ b o', s.heap.get? b = some o' -> h₁.get? b = some o') -> P h₁ v -> Q' v { s with heap := h₁, toks := tk }) -> wpAny M A (eval value (mainEnv prog c Fr)) Q' E s)
    (k : ∀ h' mg' tk, Tp h₀ mg₀ c Pl h' mg' ps ((x, P) :: F) -> Q .next { s with heap := h', toks := tk }) :
    wpAny M A (PySem.exec (.Assign [.Name x pos'] value pos) (mainEnv prog c Fr)) Q E s := by
  refine wpAny_Assign_Name (hval _ fun v h₁ tk hk hP => ?_) hsw
  have X₁ : Tp h₀ mg₀ c Pl ({ s with heap := h₁, toks := tk } : Shared).heap mg ps F := X.grown hk
  refine wpAny_storeName_local (env := mainEnv prog c Fr) hloc X₁.main.g (fun h' hg' hs' => ?_)
    (by show (prog.main.scope.kind == .class || (prog.main.scope.kind == .module && mainGlobals != mainGlobals)) = false; rw [hmod]; rfl)
  have kp : ∀ b o, b ≠ Pl -> b ≠ mainGlobals -> ({ s with heap := h₁, toks := tk } : Shared).heap.get? b = some o -> h'.get? b = some o := fun b o y_ n e => (hs'.2 _ n).trans e
  exact k h' _ _ (X₁.bind hnew hx (main_set X₁.main hnb hg' hs') kp (hS _ _ _ kp hP) hS)

theorem tp_name {pos' pos : Pos} {value : Expr} (X : Tp h₀ mg₀ c Pl s.heap mg ps F) (hloc : prog.main.scope.names.lookup ("__name__" : Str) = some .local) (hmod : prog.main.scope.kind = .module)
    (hsw : swapsWith value (some (.Name "__name__" pos')) pos.line (mainEnv prog c Fr) = pure false)
    (hval : ∀ Q' : Value -> Shared -> Prop, (∀ v h₁ tk, (∀ b o', s.heap.get? b = some o' -> h₁.get? b = some o') -> Q' v { s with heap := h₁, toks := tk }) -> wpAny M A (eval value (mainEnv prog c Fr)) Q' E s)
    (k : ∀ h' mg' tk, Tp h₀ mg₀ c Pl h' mg' ps F -> Q .next { s with heap := h', toks := tk }) :
    wpAny M A (PySem.exec (.Assign [.Name "__name__" pos'] value pos) (mainEnv prog c Fr)) Q E s := by
  refine wpAny_Assign_Name (hval _ fun v h₁ tk hk => ?_) hsw
  have X₁ : Tp h₀ mg₀ c Pl ({ s with heap := h₁, toks := tk } : Shared).heap mg ps F := X.grown hk
  refine wpAny_storeName_local (env := mainEnv prog c Fr) hloc X₁.main.g (fun h' hg' hs' => ?_)
    (by show (prog.main.scope.kind == .class || (prog.main.scope.kind == .module && mainGlobals != mainGlobals)) = false; rw [hmod]; rfl)
  have kp : ∀ b o, b ≠ Pl -> b ≠ mainGlobals -> ({ s with heap := h₁, toks := tk } : Shared).heap.get? b = some o -> h'.get? b = some o := fun b o y_ n e => (hs'.2 _ n).trans e
  exact k h' _ _ (X₁.name (main_set X₁.main (by decide) hg' hs') kp)
end
end

section
open PySem PySem.W PyProof.Rows

noncomputable abbrev PW : Program := PySem.Challenge.pw_rs0211_01
noncomputable def st (i : Nat) : Stmt := PW.main.body.getD i (.Pass default)
theorem bodyL : PW.main.body = [st 0, st 1, st 2, st 3, st 4, st 5, st 6, st 7, st 8, st 9, st 10, st 11, st 12, st 13, st 14, st 15, st 16, st 17, st 18, st 19, st 20, st 21, st 22, st 23, st 24, st 25, st 26] := by rfl
noncomputable def defP : Stmt -> DefItem
  | .FunctionDef n p b _ _ _ s _ _ pos => ⟨n, p, b, s, pos⟩
  | _ => ⟨"", ⟨[], [], Option.none, [], [], Option.none, []⟩, [], default, default⟩
noncomputable def fd (i : Nat) : DefItem := defP (st i)
noncomputable def asP : Stmt -> Expr × Pos × Pos
  | .Assign [.Name _ q] e p => (e, q, p)
  | _ => (.Constant .none 0 default, default, default)
noncomputable def av (i : Nat) : Expr := (asP (st i)).1

noncomputable def IntV (i : Int) : Heap -> Value -> Prop := fun y_ v => ∃ t, v = .int i t
theorem intV_still {Pl : PySem.Addr} {i : Int} : Holds1 Pl (IntV i) := fun y_ y_ y_ y_ h => h

noncomputable def fnE (Pl : PySem.Addr) (i : Nat) : Str × (Heap -> Value -> Prop) := ((fd i).name, FnV Pl (fd i).name (fd i).params (fd i).body (fd i).scope)

noncomputable def FF (Pl : PySem.Addr) (B1 B3 : Heap -> Value -> Prop) : List (Str × (Heap -> Value -> Prop)) :=
  [fnE Pl 26, fnE Pl 25, fnE Pl 24, fnE Pl 23, fnE Pl 22, fnE Pl 21, fnE Pl 20, fnE Pl 19, fnE Pl 18, fnE Pl 17, fnE Pl 16, fnE Pl 14, ("b3_exceptions", B3), fnE Pl 12, ("b1_set", B1), fnE Pl 9, fnE Pl 8, fnE Pl 7, fnE Pl 5, fnE Pl 4,
   ("_CASE_COST", IntV 1), ("_MOVE_COST", IntV 2), ("_MAX_STRING_SIZE", IntV 40)]

@[irreducible] noncomputable def TopVal (w : World) (c Fr Pl : PySem.Addr) (e : Expr) (P : Heap -> Value -> Prop) : Prop :=
  ∀ (A : Around) (E : Value -> Shared -> Prop) (s : Shared) (mg : Str -> Option Value) (ps : Array Value) (Q' : Value -> Shared -> Prop), s.heap.Main mg c Pl ps -> mg "set" = Option.none -> mg "list" = Option.none -> mg "range" = Option.none ->
    (∃ mb, s.heap.Ns builtinsNs mb /\ ∀ x : Str, x ≠ "__name__" -> mb x = bootBuiltins x) -> A.handled = Option.none ->
    (∀ v h₁ tk, (∀ b o', s.heap.get? b = some o' -> h₁.get? b = some o') -> P h₁ v -> Q' v { s with heap := h₁, toks := tk }) -> wpAny (model PW w) A (eval e (mainEnv PW c Fr)) Q' E s

section
variable {A : Around} {E : Value -> Shared -> Prop} {w : World} {s : Shared} {c Pl Fr : PySem.Addr} {h₀ : Heap} {mg₀ mg : Str -> Option Value} {ps : Array Value} {F : List (Str × (Heap -> Value -> Prop))} {Q : Flow -> Shared -> Prop}

theorem notIn {l : List Str} {x : Str} (h : l.contains x = false) : x ∉ l := fun q => by
  rw [List.contains_iff_mem.mpr q] at h; cases h

theorem w_def (i : Nat) {l : List (Pos × PySem.Addr)} {L : List Nat} (ln : Nat) (X : Tp h₀ mg₀ c Pl s.heap mg (triples l).toArray F) (hL : l.map (fun q => q.1.line) = L) (hst : st i = .FunctionDef (fd i).name (fd i).params (fd i).body [] Option.none [] (fd i).scope Option.none (fd i).name (fd i).pos)
    (hexec : PlainDefTree (fd i).name (fd i).params (fd i).body (fd i).scope (fd i).pos) (hfree : ((fd i).scope.names.all fun x => x.2 != .free) = true) (hdoc : docOf (fd i).body = Option.none) (hloc : PW.main.scope.names.lookup (fd i).name = some .local)
    (hq : qualnameIn { scope := PW.main.scope, locals := mainGlobals, globals := mainGlobals, cells := [] } (fd i).name (fd i).name = (fd i).name) (hnew : (F.map (·.1)).contains (fd i).name = false) (hx : (fd i).name ≠ "__name__")
    (hnb : (fd i).name ≠ "__builtins__") (hln : (fd i).pos.line = ln) (hnf : L.contains ln = false)
    (k : ∀ h' mg' (c' : PySem.Addr) tk, (l ++ [((fd i).pos, c')]).map (fun q => q.1.line) = L ++ [ln] -> Tp h₀ mg₀ c Pl h' mg' (triples (l ++ [((fd i).pos, c')])).toArray (fnE Pl i :: F) -> Q .next { s with heap := h', toks := tk }) :
    wpAny (model PW w) A (PySem.exec (st i) (mainEnv PW c Fr)) Q E s := by
  rw [hst]
  refine tp_def X hexec (fun x hx => by have := List.all_eq_true.mp hfree x hx; simpa using this) hdoc hloc hq (notIn hnew) hx hnb rfl ?_ fun h' mg' c' tk X' => k h' mg' c' tk (by simp [hL, hln]) ?_
  . rw [List.toList_toArray]
    refine codeAmong_triples _ _ fun q hq' e => ?_
    have hm : q.1.line ∈ L := by rw [<- hL]; exact List.mem_map.mpr ⟨q, hq', rfl⟩
    rw [e.1, hln, <- List.contains_iff_mem, hnf] at hm
    cases hm
  . rw [triples_append]
    have := X'
    simp only [List.append_toArray] at this ⊢
    exact this

theorem w_int (i : Nat) {x : Str} {n : Int} {q p : Pos} {k0 : Nat} {q2 : Pos} (X : Tp h₀ mg₀ c Pl s.heap mg ps F) (hst : st i = .Assign [.Name x q] (.Constant (.int n) k0 q2) p) (hloc : PW.main.scope.names.lookup x = some .local) (hnew : (F.map (·.1)).contains x = false) (hx : x ≠ "__name__") (hnb : x ≠ "__builtins__")
    (k : ∀ h' mg' tk, Tp h₀ mg₀ c Pl h' mg' ps ((x, IntV n) :: F) -> Q .next { s with heap := h', toks := tk }) :
    wpAny (model PW w) A (PySem.exec (st i) (mainEnv PW c Fr)) Q E s := by
  rw [hst]
  exact tp_assign X hloc (notIn hnew) hx hnb rfl intV_still rfl (fun Q' h => wpAny_Constant_int (h _ s.heap _ (fun y_ y_ e => e) ⟨_, rfl⟩)) k

theorem w_name (i : Nat) {n : Str} {q p : Pos} {k0 : Nat} {q2 : Pos} (X : Tp h₀ mg₀ c Pl s.heap mg ps F) (hst : st i = .Assign [.Name "__name__" q] (.Constant (.str n) k0 q2) p)
    (k : ∀ h' mg' tk, Tp h₀ mg₀ c Pl h' mg' ps F -> Q .next { s with heap := h', toks := tk }) :
    wpAny (model PW w) A (PySem.exec (st i) (mainEnv PW c Fr)) Q E s := by
  rw [hst]
  exact tp_name X rfl rfl rfl (fun Q' h => wpAny_Constant_str (h _ s.heap _ (fun y_ y_ e => e))) k
end
end

section
open PySem PySem.W PyProof.Rows

section
variable {A : Around} {E : Value -> Shared -> Prop} {w : World} {s : Shared} {c Pl Fr : PySem.Addr} {h₀ : Heap} {mg₀ mg : Str -> Option Value} {ps : Array Value} {F : List (Str × (Heap -> Value -> Prop))} {Q : Flow -> Shared -> Prop}

theorem w_valS {T : Stmt} {x : Str} {e : Expr} {q p : Pos} {P : Heap -> Value -> Prop} (X : Tp h₀ mg₀ c Pl s.heap mg ps F) (hst : T = .Assign [.Name x q] e p) (hloc : PW.main.scope.names.lookup x = some .local) (hnew : (F.map (·.1)).contains x = false) (hx : x ≠ "__name__") (hnb : x ≠ "__builtins__")
    (hS : Holds1 Pl P) (hsw : swapsWith e (some (.Name x q)) p.line (mainEnv PW c Fr) = pure false) (hv : TopVal w c Fr Pl e P)
    (hs : mg₀ "set" = Option.none) (hl : mg₀ "list" = Option.none) (hr : mg₀ "range" = Option.none) (hb : ∃ mb, h₀.Ns builtinsNs mb /\ ∀ x : Str, x ≠ "__name__" -> mb x = bootBuiltins x)
    (ns : (F.map (·.1)).contains ("set" : Str) = false) (nl : (F.map (·.1)).contains ("list" : Str) = false) (nr : (F.map (·.1)).contains ("range" : Str) = false) (hh : A.handled = Option.none)
    (k : ∀ h' mg' tk, Tp h₀ mg₀ c Pl h' mg' ps ((x, P) :: F) -> Q .next { s with heap := h', toks := tk }) :
    wpAny (model PW w) A (PySem.exec T (mainEnv PW c Fr)) Q E s := by
  rw [hst]
  unfold TopVal at hv
  have p0 : builtinsNs ≠ Pl := Nat.ne_of_lt (Nat.lt_trans (by decide) X.main.low.2)
  refine tp_assign X hloc (notIn hnew) hx hnb rfl hS hsw (fun Q' h => hv A E s mg ps Q' X.main ((X.others _ (notIn ns) (by decide)).trans hs) ((X.others _ (notIn nl) (by decide)).trans hl) ((X.others _ (notIn nr) (by decide)).trans hr) ?_ hh h) k
  obtain ⟨mb, e1, e2⟩ := hb
  exact ⟨mb, e1.at fun o => X.keep _ o p0 (by decide), e2⟩

theorem w_val (i : Nat) {x : Str} {e : Expr} {q p : Pos} {P : Heap -> Value -> Prop} (X : Tp h₀ mg₀ c Pl s.heap mg ps F) (hst : st i = .Assign [.Name x q] e p) (hloc : PW.main.scope.names.lookup x = some .local) (hnew : (F.map (·.1)).contains x = false) (hx : x ≠ "__name__") (hnb : x ≠ "__builtins__")
    (hS : Holds1 Pl P) (hsw : swapsWith e (some (.Name x q)) p.line (mainEnv PW c Fr) = pure false) (hv : TopVal w c Fr Pl e P)
    (hs : mg₀ "set" = Option.none) (hl : mg₀ "list" = Option.none) (hr : mg₀ "range" = Option.none) (hb : ∃ mb, h₀.Ns builtinsNs mb /\ ∀ x : Str, x ≠ "__name__" -> mb x = bootBuiltins x)
    (ns : (F.map (·.1)).contains ("set" : Str) = false) (nl : (F.map (·.1)).contains ("list" : Str) = false) (nr : (F.map (·.1)).contains ("range" : Str) = false) (hh : A.handled = Option.none)
    (k : ∀ h' mg' tk, Tp h₀ mg₀ c Pl h' mg' ps ((x, P) :: F) -> Q .next { s with heap := h', toks := tk }) :
    wpAny (model PW w) A (PySem.exec (st i) (mainEnv PW c Fr)) Q E s := by
  rw [hst]
  unfold TopVal at hv
  have p0 : builtinsNs ≠ Pl := Nat.ne_of_lt (Nat.lt_trans (by decide) X.main.low.2)
  refine tp_assign X hloc (notIn hnew) hx hnb rfl hS hsw (fun Q' h => hv A E s mg ps Q' X.main ((X.others _ (notIn ns) (by decide)).trans hs) ((X.others _ (notIn nl) (by decide)).trans hl) ((X.others _ (notIn nr) (by decide)).trans hr) ?_ hh h) k
  obtain ⟨mb, e1, e2⟩ := hb
  exact ⟨mb, e1.at fun o => X.keep _ o p0 (by decide), e2⟩

theorem st11 : st 11 = .Assign [.Name "b1_set" (asP (st 11)).2.1] (av 11) (asP (st 11)).2.2 := by rfl
theorem st13 : st 13 = .Assign [.Name "b3_exceptions" (asP (st 13)).2.1] (av 13) (asP (st 13)).2.2 := by rfl
theorem sw11 {env : Env} : swapsWith (av 11) (some (.Name "b1_set" (asP (st 11)).2.1)) (asP (st 11)).2.2.line env = pure false := by rfl
theorem sw13 {env : Env} : swapsWith (av 13) (some (.Name "b3_exceptions" (asP (st 13)).2.1)) (asP (st 13)).2.2.line env = pure false := by rfl

set_option maxHeartbeats 2000000 in
theorem top_walk {B1 B3 : Heap -> Value -> Prop} (X : Tp h₀ mg₀ c Pl s.heap mg₀ (triples []).toArray []) (S1 : Holds1 Pl B1) (S3 : Holds1 Pl B3) (v1 : TopVal w c Fr Pl (av 11) B1) (v3 : TopVal w c Fr Pl (av 13) B3)
    (hs : mg₀ "set" = Option.none) (hl : mg₀ "list" = Option.none) (hr : mg₀ "range" = Option.none) (hb : ∃ mb, h₀.Ns builtinsNs mb /\ ∀ x : Str, x ≠ "__name__" -> mb x = bootBuiltins x) (hh : A.handled = Option.none)
    (k : ∀ h' mg' ps' tk, Tp h₀ mg₀ c Pl h' mg' ps' (FF Pl B1 B3) -> Q .next { s with heap := h', toks := tk }) :
    wpAny (model PW w) A (PySem.execs PW.main.body (mainEnv PW c Fr)) Q E s := by
  rw [bodyL]
  generalize hT : st 13 = T13
  refine wpAny_execs_cons ?_
  refine w_name 0 X rfl fun h0 mg0 tk0 X0 => ?_
  refine wpAny_execs_cons ?_
  refine w_int 1 (x := "_MAX_STRING_SIZE") (n := 40) X0 rfl rfl (by rfl) (by decide) (by decide) fun h1 mg1 tk1 X1 => ?_
  refine wpAny_execs_cons ?_
  refine w_int 2 (x := "_MOVE_COST") (n := 2) X1 rfl rfl (by rfl) (by decide) (by decide) fun h2 mg2 tk2 X2 => ?_
  refine wpAny_execs_cons ?_
  refine w_int 3 (x := "_CASE_COST") (n := 1) X2 rfl rfl (by rfl) (by decide) (by decide) fun h3 mg3 tk3 X3 => ?_
  refine wpAny_execs_cons ?_
  refine w_def 4 5 X3 rfl rfl (fun y_ => rfl) (by rfl) (by rfl) (by rfl) (by rfl) (by rfl) (by decide) (by decide) rfl (by decide) fun h4 mg4 c4 tk4 L4 X4 => ?_
  refine wpAny_execs_cons ?_
  refine w_def 5 11 X4 L4 rfl (fun y_ => rfl) (by rfl) (by rfl) (by rfl) (by rfl) (by rfl) (by decide) (by decide) rfl (by decide) fun h5 mg5 c5 tk5 L5 X5 => ?_
  refine wpAny_execs_cons ?_
  refine w_name 6 X5 rfl fun h6 mg6 tk6 X6 => ?_
  refine wpAny_execs_cons ?_
  refine w_def 7 50 X6 L5 rfl (fun y_ => rfl) (by rfl) (by rfl) (by rfl) (by rfl) (by rfl) (by decide) (by decide) rfl (by decide) fun h7 mg7 c7 tk7 L7 X7 => ?_
  refine wpAny_execs_cons ?_
  refine w_def 8 63 X7 L7 rfl (fun y_ => rfl) (by rfl) (by rfl) (by rfl) (by rfl) (by rfl) (by decide) (by decide) rfl (by decide) fun h8 mg8 c8 tk8 L8 X8 => ?_
  refine wpAny_execs_cons ?_
  refine w_def 9 81 X8 L8 rfl (fun y_ => rfl) (by rfl) (by rfl) (by rfl) (by rfl) (by rfl) (by decide) (by decide) rfl (by decide) fun h9 mg9 c9 tk9 L9 X9 => ?_
  refine wpAny_execs_cons ?_
  refine w_name 10 X9 rfl fun h10 mg10 tk10 X10 => ?_
  refine wpAny_execs_cons ?_
  refine w_val 11 (x := "b1_set") (e := av 11) (q := (asP (st 11)).2.1) (p := (asP (st 11)).2.2) X10 st11 rfl (by rfl) (by decide) (by decide) S1 sw11 v1 hs hl hr hb (by rfl) (by rfl) (by rfl) hh fun h11 mg11 tk11 X11 => ?_
  refine wpAny_execs_cons ?_
  refine w_def 12 94 X11 L9 rfl (fun y_ => rfl) (by rfl) (by rfl) (by rfl) (by rfl) (by rfl) (by decide) (by decide) rfl (by decide) fun h12 mg12 c12 tk12 L12 X12 => ?_
  refine wpAny_execs_cons ?_
  refine w_valS (T := T13) (x := "b3_exceptions") (e := av 13) (q := (asP (st 13)).2.1) (p := (asP (st 13)).2.2) X12 (hT.symm.trans st13) rfl (by rfl) (by decide) (by decide) S3 sw13 v3 hs hl hr hb (by rfl) (by rfl) (by rfl) hh fun h13 mg13 tk13 X13 => ?_
  refine wpAny_execs_cons ?_
  refine w_def 14 97 X13 L12 rfl (fun y_ => rfl) (by rfl) (by rfl) (by rfl) (by rfl) (by rfl) (by decide) (by decide) rfl (by decide) fun h14 mg14 c14 tk14 L14 X14 => ?_
  refine wpAny_execs_cons ?_
  refine w_name 15 X14 rfl fun h15 mg15 tk15 X15 => ?_
  refine wpAny_execs_cons ?_
  refine w_def 16 103 X15 L14 rfl (fun y_ => rfl) (by rfl) (by rfl) (by rfl) (by rfl) (by rfl) (by decide) (by decide) rfl (by decide) fun h16 mg16 c16 tk16 L16 X16 => ?_
  refine wpAny_execs_cons ?_
  refine w_def 17 105 X16 L16 rfl (fun y_ => rfl) (by rfl) (by rfl) (by rfl) (by rfl) (by rfl) (by decide) (by decide) rfl (by decide) fun h17 mg17 c17 tk17 L17 X17 => ?_
  refine wpAny_execs_cons ?_
  refine w_def 18 119 X17 L17 rfl (fun y_ => rfl) (by rfl) (by rfl) (by rfl) (by rfl) (by rfl) (by decide) (by decide) rfl (by decide) fun h18 mg18 c18 tk18 L18 X18 => ?_
  refine wpAny_execs_cons ?_
  refine w_def 19 125 X18 L18 rfl (fun y_ => rfl) (by rfl) (by rfl) (by rfl) (by rfl) (by rfl) (by decide) (by decide) rfl (by decide) fun h19 mg19 c19 tk19 L19 X19 => ?_
  refine wpAny_execs_cons ?_
  refine w_def 20 134 X19 L19 rfl (fun y_ => rfl) (by rfl) (by rfl) (by rfl) (by rfl) (by rfl) (by decide) (by decide) rfl (by decide) fun h20 mg20 c20 tk20 L20 X20 => ?_
  refine wpAny_execs_cons ?_
  refine w_def 21 140 X20 L20 rfl (fun y_ => rfl) (by rfl) (by rfl) (by rfl) (by rfl) (by rfl) (by decide) (by decide) rfl (by decide) fun h21 mg21 c21 tk21 L21 X21 => ?_
  refine wpAny_execs_cons ?_
  refine w_def 22 146 X21 L21 rfl (fun y_ => rfl) (by rfl) (by rfl) (by rfl) (by rfl) (by rfl) (by decide) (by decide) rfl (by decide) fun h22 mg22 c22 tk22 L22 X22 => ?_
  refine wpAny_execs_cons ?_
  refine w_def 23 152 X22 L22 rfl (fun y_ => rfl) (by rfl) (by rfl) (by rfl) (by rfl) (by rfl) (by decide) (by decide) rfl (by decide) fun h23 mg23 c23 tk23 L23 X23 => ?_
  refine wpAny_execs_cons ?_
  refine w_def 24 154 X23 L23 rfl (fun y_ => rfl) (by rfl) (by rfl) (by rfl) (by rfl) (by rfl) (by decide) (by decide) rfl (by decide) fun h24 mg24 c24 tk24 L24 X24 => ?_
  refine wpAny_execs_cons ?_
  refine w_def 25 161 X24 L24 rfl (fun y_ => rfl) (by rfl) (by rfl) (by rfl) (by rfl) (by rfl) (by decide) (by decide) rfl (by decide) fun h25 mg25 c25 tk25 L25 X25 => ?_
  refine wpAny_execs_cons ?_
  refine w_def 26 175 X25 L25 rfl (fun y_ => rfl) (by rfl) (by rfl) (by rfl) (by rfl) (by rfl) (by decide) (by decide) rfl (by decide) fun h26 mg26 c26 tk26 L26 X26 => ?_
  exact wpAny_execs_nil (k _ _ _ _ X26)
end
end

section
open PySem PySem.W PyProof.Rows

structure Top1 (h₀ : Heap) (mg₀ : Str -> Option Value) (B1 B3 : PySem.Addr -> Heap -> Value -> Prop) (s₀ s' : Shared) : Prop where
  top : ∃ c Pl mg' ps h₁, (∀ b o, h₀.get? b = some o -> h₁.get? b = some o) /\ h₀.objs.size <= Pl /\ Tp h₁ mg₀ c Pl s'.heap mg' ps (FF Pl (B1 Pl) (B3 Pl))
  gens : s'.gens = s₀.gens
  os : s'.os = s₀.os


set_option maxRecDepth 100000 in
set_option maxHeartbeats 1000000 in
theorem top_tree {w : World} {q : Program} {s₀ : Shared} {mb mg₀ : Str -> Option Value} {c0 P0 : PySem.Addr} {B1 B3 : PySem.Addr -> Heap -> Value -> Prop} (hB : BootLeft9 q s₀.heap mb mg₀ c0 P0)
    (S1 : ∀ Pl, Holds1 Pl (B1 Pl)) (S3 : ∀ Pl, Holds1 Pl (B3 Pl)) (v1 : ∀ c Fr Pl, TopVal w c Fr Pl (av 11) (B1 Pl)) (v3 : ∀ c Fr Pl, TopVal w c Fr Pl (av 13) (B3 Pl)) :
    wpAny (model PW w) callerA (topStub PW).cur (fun fin s' => (∃ f, fin = .done f) /\ Top1 s₀.heap mg₀ B1 B3 s₀ s') NoE s₀ := by
  show wpAny _ _ (do
    let code <- moduleCode PW.main
    let frame <- newBodyFrame code mainNs mainNs
    let _ <- run (.body (behindTheImports PW) { scope := PW.main.scope, locals := mainNs, globals := mainNs, cells := [], code, frame := some frame })
    ret .none) _ _ _
  refine wpAny_bind (wpAny_moduleCode fun c Pl h₁ tk k1 hc hP code => ?_)
  unfold newBodyFrame
  have g1 := hB.g.keeps k1
  refine wpAny_bind (wpAny_bind (wpAny_nsGet g1 (wpAny_alloc ?_)))
  refine wpAny_bind (wpAny_run ?_ (by intro x; cases x))
  have hb : behindTheImports PW = PW.main.body := by rfl
  rw [hb]
  refine codeAny_body (by rfl) (by rfl) ?_
  generalize hH : Heap.push h₁ _ = h₂
  have k2 : ∀ b o, h₁.get? b = some o -> h₂.get? b = some o := fun b o e => by rw [<- hH]; exact Heap.get?_push_of_some _ e
  have k12 : ∀ b o, s₀.heap.get? b = some o -> h₂.get? b = some o := fun b o e => k2 b o (k1 b o e)
  have hG : mainGlobals < s₀.heap.objs.size := hB.g.lt
  refine cps fun U J => ?_
  obtain ⟨bm, o, hbm, hne0, hneG, hneP, hbo, hrest⟩ := hB.bmod
  refine J ?_; clear J U
  have X : Tp h₂ mg₀ c Pl h₂ mg₀ (triples []).toArray [] := ⟨⟨hB.g.keeps k12, code.keeps k2, ⟨Nat.lt_of_lt_of_le hG hc, Nat.lt_of_lt_of_le hG hP⟩, ⟨bm, o, hbm, hne0, hneG, Nat.ne_of_lt (Nat.lt_of_lt_of_le (Heap.lt_size hbo) hP), k12 _ _ hbo, hrest⟩⟩,
    fun y_ y_ y_ y_ e => e, (fun y_ h => nomatch h), (fun y_ h => nomatch h), fun y_ y_ y_ => rfl, (fun h => nomatch h)⟩
  refine wpAny_mono (E := NoE) (top_walk (w := w) X (S1 Pl) (S3 Pl) (v1 c _ Pl) (v3 c _ Pl) (hB.others _ (by decide)) (hB.others _ (by decide)) (hB.others _ (by decide)) ⟨mb, hB.b.keeps k12, hB.builtins⟩ rfl fun h' mg' ps' tk' X' => ?_) (fun f s' q => q) fun y_ y_ e => e.elim
  exact wpAny_pure ⟨⟨_, rfl⟩, ⟨c, Pl, mg', ps', h₂, k12, hP, X'⟩, rfl, rfl⟩
end

section
open PySem PySem.W PyProof.Rows

theorem ran_of {p : Program} {w : World} {T : Sem Fin} {s : Shared} {P : Shared -> Prop} (hz : s.asleep) (h : wpAny (model p w) callerA T (fun fin s' => (∃ f, fin = .done f) /\ P s') NoE s) (hg : ∀ s', P s' -> s'.gens = #[]) :
    ∃ n s' t', schedN (denote table) p w n (.single s ⟨T, .builtin "claim.caller" {}, default, []⟩) = .running (.single s' t') /\ W.through t' = true /\ P s' /\ s'.heap.life = s.heap.life := by
  have h' := h ⟨.builtin "claim.caller" {}, Option.none, Option.none, [], Option.none⟩ default caller_in
  refine cps fun U J => ?_
  obtain ⟨n, s', t', hs, ht, hT, _, hl⟩ := runs_through (P := P) hz (Sem.wp_mono _ _ _ (fun fin p s' x => ⟨x.1, x.2, hg _ x.2⟩) (fun y_ y_ y_ x => x.elim) _ _ h')
  refine J ?_; clear J U
  exact ⟨n, s', t', hs, ht, hT, hl⟩

theorem stub_ran {w : World} {s : Shared} {P : Shared -> Prop} (hz : s.asleep) (h : wpAny (model PW w) callerA (topStub PW).cur (fun fin s' => (∃ f, fin = .done f) /\ P s') NoE s) (hg : ∀ s', P s' -> s'.gens = #[]) :
    ∃ n s' t', schedN (denote table) PW w n (.single s (topStub PW)) = .running (.single s' t') /\ W.through t' = true /\ P s' /\ s'.heap.life = s.heap.life := by
  refine cps fun U J => ?_
  obtain ⟨n, s', t', a, b⟩ := ran_of hz h hg
  refine J ?_; clear J U
  exact ⟨n, s', t', a, b⟩


theorem ff_names (Pl : PySem.Addr) (B1 B3 : Heap -> Value -> Prop) : ((FF Pl B1 B3).map (·.1)).all (fun x => PW.boundNames.contains x && !laidNames.contains x && x != "__builtins__" && !startupNames.contains x) = true := by rfl

theorem top_ran {w : World} {s₀ : Shared} {mb mg₀ : Str -> Option Value} {c0 P0 : PySem.Addr} {B1 B3 : PySem.Addr -> Heap -> Value -> Prop} (hB : BootLeft9 (opening PW) s₀.heap mb mg₀ c0 P0) (hg0 : s₀.gens = #[]) (hz : s₀.asleep)
    (S1 : ∀ Pl, Holds1 Pl (B1 Pl)) (S3 : ∀ Pl, Holds1 Pl (B3 Pl)) (v1 : ∀ c Fr Pl, TopVal w c Fr Pl (av 11) (B1 Pl)) (v3 : ∀ c Fr Pl, TopVal w c Fr Pl (av 13) (B3 Pl)) :
    ∃ s₁, TopRan PW w s₀ s₁ /\ Top1 s₀.heap mg₀ B1 B3 s₀ s₁ /\ s₁.gens = #[] /\ s₁.asleep := by
  refine cps fun U J => ?_
  obtain ⟨n, s', t', hs, ht, hT, hl⟩ := stub_ran hz (top_tree (w := w) hB S1 S3 v1 v3) fun s' x => x.gens.trans hg0
  refine J ?_; clear J U
  have hg : s'.gens = #[] := hT.gens.trans hg0
  refine ⟨s', ?_, hT, hg, Shared.asleep_of_life hl hz⟩
  refine cps fun U J => ?_
  obtain ⟨c, Pl, mg', ps, h₁, k1, hP, X⟩ := hT.top
  refine J ?_; clear J U
  have keep : ∀ b o, b ≠ mainGlobals -> s₀.heap.get? b = some o -> s'.heap.get? b = some o := fun b o n e => X.keep b o (Nat.ne_of_lt (Nat.lt_of_lt_of_le (Heap.lt_size e) hP)) n (k1 b o e)
  have K : Pin.Kept (opening PW) s'.heap mg₀ mb := .of hB fun b o y_ n e => keep b o n e
  have names := ff_names Pl (B1 Pl) (B3 Pl)
  rw [List.all_eq_true] at names
  have same : ∀ x : Str, x ∈ startupNames -> x ≠ "__name__" -> globalOf s'.heap x = globalOf s₀.heap x := fun x hx hn => by
    rw [PySem.Claim2Try.globalOf_of_ns X.main.g, PySem.Claim2Try.globalOf_of_ns hB.g]
    refine X.others x (fun hm => ?_) hn
    have := names x hm
    simp only [Bool.and_eq_true, Bool.not_eq_true'] at this
    rw [List.contains_iff_mem.mpr hx] at this
    exact absurd this.2 (by decide)
  refine ⟨⟨n, t', hs, ht⟩, hl, Shared.rest_eq hT.os, fun b o e hn => keep b o (fun q => hn (.inl q)) e, fun key v hv => ?_, fun key => .inl ?_, Pin.keysAreStrs_of_ns X.main.g,
    fun x hx => (Pin.builtinOf_of_ns K.b x).trans (K.builtins x hx), ?_, fun g hgm => ?_, fun x v hv => ?_, fun x hx => ?_⟩
  . rw [Pin.staticOf_of_ns K.statics key] at hv; cases hv
  . rw [Pin.staticOf_of_ns K.statics key, Pin.staticOf_of_ns hB.statics key]
  . refine cps fun U J => ?_
    obtain ⟨bm, o, hbm, hbo, hc, hd⟩ := K.bmod
    refine J ?_; clear J U
    refine ⟨bm, o, ?_, hbo, hc, hd⟩
    rw [same _ (by decide) (by decide), PySem.Claim2Try.globalOf_of_ns hB.g]
    exact hbm
  . rw [hg] at hgm; simp at hgm
  . rw [PySem.Claim2Try.globalOf_of_ns X.main.g] at hv
    by_cases hx : x ∈ (FF Pl (B1 Pl) (B3 Pl)).map (·.1)
    . have := names x hx
      simp only [Bool.and_eq_true, List.contains_iff_mem] at this
      exact .inr this.1.1.1
    . by_cases hn : x = "__name__"
      . subst hn; exact .inl (by decide)
      . rw [X.others x hx hn] at hv
        by_cases hb : x ∈ bootMainNames
        . exact .inl hb
        . rw [hB.others x hb] at hv; cases hv
  . refine same x ?_ ?_
    . revert hx; revert x; decide
    . revert hx; revert x; decide
end

section
open PySem PySem.W PyProof.Rows

section
variable {prog : Program} {w : World} {hB : Heap} {mg mb : Str -> Option Value}

theorem load_glob {M : Model} {A : Around} {E : Value -> Shared -> Prop} {s : Shared} {env : Env} {x : Str} {Q : Value -> Shared -> Prop} (hk : env.scope.kind = .function) (hx : env.kindOf x = some .globalImplicit)
    (h : wpAny M A (loadGlobal env x) Q E s) : wpAny M A (loadName env x) Q E s := by
  unfold loadName
  simp only [Env.blockKind, hk, hx, ScopeKind.isAnnotationScope, Bool.false_and, Bool.false_eq_true, if_false]
  exact h

theorem gname_top (hg : hB.Ns mainGlobals mg) {x : Str} {v : Value} (hx : mg x = some v) : GName prog w hB x v := by
  intro env A E Q s V hk k h
  exact load_glob V.kind hk (Calls.loadGlobal_global (by rw [V.globals]; exact hg.keeps k) hx h)

theorem gname_built (hg : hB.Ns mainGlobals mg) (hb : hB.Ns builtinsNs mb) {x : Str} {v : Value} (hx : mg x = Option.none) (hv : mb x = some v) : GName prog w hB x v := by
  intro env A E Q s V hk k h
  exact load_glob V.kind hk (Calls.loadGlobal_builtin (by rw [V.globals]; exact hg.keeps k) hx (by rw [V.builtins]; exact hb.keeps k) hv h)

theorem boot_names : ∀ b : BF, ∀ f : Str, bname f = some b -> bootBuiltins f = some (bval b) := by
  intro b f h
  unfold bname at h
  repeat' split at h
  all_goals (first | (cases h; done) | skip)
  all_goals (cases h; rename_i e; subst e; rfl)

theorem fnAt_of {Pl : PySem.Addr} {i : Nat} {names : List Str} {v : Value} (hg : hB.Ns mainGlobals mg) (hlim : hB.NoLimit) (hx : mg (fd i).name = some v) (h : FnV Pl (fd i).name (fd i).params (fd i).body (fd i).scope hB v)
    (hbind : ∀ (pm cd : Value) (vals : List Value), vals.length = names.length -> bindArgs (plainDef (fd i).name (fd i).params (fd i).body (fd i).scope pm cd) ⟨vals, []⟩ = pure (names.zip vals)) :
    ∃ a ob d, FnAt prog w hB (fd i).name names (fd i).body (fd i).scope a ob d := by
  refine cps fun U J => ?_
  obtain ⟨a, pm, c', rfl, _, _, _, _, e, r⟩ := h
  refine J ?_; clear J U
  exact ⟨a, _, _, gname_top hg hx, e, rfl, rfl, rfl, rfl, rfl, rfl, r, hlim, fun vals hl => hbind pm (.ref c') vals hl⟩
end
end

section
open PySem PySem.W PyProof.Rows

section
variable {A : Around} {E : Value -> Shared -> Prop} {w : World} {s : Shared} {c Pl Fr : PySem.Addr} {mg mb : Str -> Option Value} {ps : Array Value}

theorem top_name {x : Str} {pos : Pos} {v : Value} {Q : Value -> Shared -> Prop} (hm : s.heap.Main mg c Pl ps) (hx : mg x = Option.none) (hb : s.heap.Ns builtinsNs mb) (hv : mb x = some v)
    (hk : PW.main.scope.names.lookup x = some .globalImplicit) (hd : (x == ("__debug__" : Str)) = false) (h : Q v s) : wpAny (model PW w) A (eval (.Name x pos) (mainEnv PW c Fr)) Q E s := by
  refine wpAny_Name ?_ hd
  have e : loadName (mainEnv PW c Fr) x = loadGlobal (mainEnv PW c Fr) x := by
    have hk' : (mainEnv PW c Fr).kindOf x = some .globalImplicit := hk
    unfold loadName
    have hb : (mainEnv PW c Fr).blockKind = .module := rfl
    have hs : (mainEnv PW c Fr).scope.kind.isAnnotationScope = false := rfl
    simp only [hs, hb, hk', Bool.false_and, Bool.false_eq_true, if_false]
    have hl : ((mainEnv PW c Fr).locals != (mainEnv PW c Fr).globals) = false := by show (mainGlobals != mainGlobals) = false; simp
    simp only [hl, Bool.false_and, Bool.false_eq_true, if_false]
  rw [e]
  exact Calls.loadGlobal_builtin hm.g hx hb hv h

noncomputable def intC : Expr -> Option Int
  | .Constant (.int i) _ _ => some i
  | _ => Option.none

theorem noneI {i : Int} {C : Prop} (h : (Option.none : Option Int) = some i) : C := nomatch h
theorem intC_inv {e : Expr} {i : Int} (h : intC e = some i) : ∃ p q, e = .Constant (.int i) p q := by
  cases e with
  | Constant k p q => cases k <;> first | exact noneI h | exact ⟨p, q, congrArg (fun j => Expr.Constant (.int j) p q) (Option.some.inj h)⟩
  | _ => exact noneI h

set_option tactic.hygienic true in
theorem const_items {env : Env} {pos : Pos} : ∀ {es : List Expr} {ns : List Int} {s : Shared} {Q : List Value -> Shared -> Prop}, es.map intC = ns.map some -> (∀ vs tk, IntsAre vs ns -> Q vs { s with toks := tk }) ->
    wpAny (model PW w) A (spliced (backTo pos (starEach es env))) Q E s
  | [], [], s, Q, _, h => wpAny_items_nil (h [] s.toks .nil)
  | [], _ :: _, _, _, e, _ => by simp at e
  | _ :: _, [], _, _, e, _ => by simp at e
  | a :: es, n :: ns, s, Q, e, h => by
    simp only [List.map_cons, List.cons.injEq] at e
    obtain ⟨e1, e2⟩ := e
    obtain ⟨p, q, rfl⟩ := intC_inv e1
    refine wpAny_items_cons (wpAny_Constant_int (const_items e2 fun vs tk hi => h _ tk (.cons _ _ hi))) rfl

noncomputable def b1a : List Int := [173, 847, 6150, 6155, 6156, 6157, 8203, 8204, 8205, 8288, 65279]
noncomputable def b1b : List Int := (List.range 16).map fun (i : Nat) => 65024 + (i : Int)
noncomputable def b1S : Int -> Bool := fun k => (firstMet (fun i => (b1a ++ b1b).getD i 0) 27).any (· == k)

noncomputable def B1 (w : World) (Pl : PySem.Addr) : Heap -> Value -> Prop := fun h v => ∃ a n, v = .ref a /\ a ≠ Pl /\ a ≠ mainGlobals /\ h.SetOf (intKind PW w) a b1S n
theorem b1_still (w : World) (Pl : PySem.Addr) : Holds1 Pl (B1 w Pl) := by
  rintro h h' v k ⟨a, n, rfl, n1, n2, o, es, ep, t, e, r⟩
  exact ⟨a, n, rfl, n1, n2, o, es, ep, t, k _ _ n1 n2 e, r⟩

theorem av11_shape : ∃ (p0 p1 p2 p3 p4 p5 p6 p7 : Pos) (es : List Expr) (k1 k2 : Nat) (q1 q2 : Pos), av 11 = .Call (.Name "set" p0) [.BinOp (.List es p1) .Add (.Call (.Name "list" p2) [.Call (.Name "range" p3) [.Constant (.int 65024) k1 q1, .Constant (.int 65040) k2 q2] [] p4] [] p5) p6] [] p7 /\
    es.map intC = b1a.map some := ⟨_, _, _, _, _, _, _, _, _, _, _, _, _, rfl, rfl⟩

theorem intsAre_of_items {vs : Array Value} (h : ItemsOf (fun i v => ∃ t, v = .int (65024 + i * 1) t) vs 16) : IntsAre vs.toList b1b := by
  have aux : ∀ (l : List Value) (f : Nat -> Int), (∀ i (hi : i < l.length), ∃ t, l[i] = .int (f i) t) -> IntsAre l ((List.range l.length).map f) := by
    intro l
    induction l with
    | nil => intro f _; exact .nil
    | cons v l ih =>
      intro f h
      obtain ⟨t, e⟩ := h 0 (by simp)
      rw [List.length_cons, List.range_succ_eq_map, List.map_cons, List.map_map]
      simp only [List.getElem_cons_zero] at e
      subst e
      exact .cons _ _ (ih (fun i => f (i + 1)) fun i hi => h (i + 1) (Nat.succ_lt_succ hi))
  have hl : vs.toList.length = 16 := by simpa using h.1
  have := aux vs.toList (fun i => 65024 + (i : Int)) fun i hi => by
    obtain ⟨t, e⟩ := h.2 i vs.toList[i] (by simp at hi; simp [hi])
    exact ⟨t, by rw [e, Int.mul_one]⟩
  rw [hl] at this
  exact this


theorem val11 (w : World) (c Fr Pl : PySem.Addr) : TopVal w c Fr Pl (av 11) (B1 w Pl) := by
  unfold TopVal
  intro A E s mg ps Q' hm hs hl hr ⟨mb, hb, hbb⟩ hh hQ
  refine cps fun U J => ?_
  obtain ⟨p0, p1, p2, p3, p4, p5, p6, p7, es, z1, z2, q1, q2, he, hes⟩ := av11_shape
  refine J ?_; clear J U
  rw [he]
  refine Call_Name rfl (top_name hm hs hb ((hbb _ (by decide)).trans (by rfl : bootBuiltins "set" = some (.type "set"))) rfl rfl ?_)
  refine callWith_type1 (wpAny_items_cons (wpAny_BinOp ?_) rfl)
  refine wpAny_List (const_items hes fun vs tk hi => ?_)
  have hvl : vs.length = 11 := by rw [hi.length]; rfl
  refine ⟨by rw [hvl]; simp [sizeLine], ?_⟩
  generalize hH : s.heap.push { cls := .type "list", data := .seq vs.toArray } = H1
  have k1 : ∀ b o, s.heap.get? b = some o -> H1.get? b = some o := fun b o e => by rw [<- hH]; exact Heap.get?_push_of_some _ e
  have l1 : H1.IsList s.heap.objs.size vs.toArray := ⟨_, by rw [<- hH]; exact Heap.get?_push_size _ rfl, rfl, _, rfl⟩
  have m1 : H1.Main mg c Pl ps := by
    refine cps fun U J => ?_
    obtain ⟨bm, o, hbm, hne0, hneG, hneP, hbo, hrest⟩ := hm.bmod
    refine J ?_; clear J U
    exact ⟨hm.g.keeps k1, hm.code.keeps k1, hm.low, ⟨bm, o, hbm, hne0, hneG, hneP, k1 _ _ hbo, hrest⟩⟩
  refine Call_Name rfl (top_name (s := { s with heap := H1, toks := tk }) m1 hl (hb.keeps k1) ((hbb _ (by decide)).trans (by rfl : bootBuiltins "list" = some (.type "list"))) rfl rfl ?_)
  refine callWith_type1 (wpAny_items_cons ?_ rfl)
  refine Call_Name rfl (top_name (s := { s with heap := H1, toks := tk }) m1 hr (hb.keeps k1) ((hbb _ (by decide)).trans (by rfl : bootBuiltins "range" = some (.type "range"))) rfl rfl ?_)
  refine callWith_type1 ?_ rfl rfl
  refine wpAny_items_cons ?_ rfl
  refine wpAny_Constant_int ?_
  refine wpAny_items_cons ?_ rfl
  refine wpAny_Constant_int ?_
  refine wpAny_items_nil ?_
  refine call_range_2 ?_
  dsimp only
  generalize hR : Heap.push H1 _ = H2
  have k2 : ∀ b o, H1.get? b = some o -> H2.get? b = some o := fun b o e => by rw [<- hR]; exact Heap.get?_push_of_some _ e
  have r2 : H2.get? H1.objs.size = some { cls := .type "range", data := .fields #[.int 65024 tk, .int 65040 (tk + 1), .int 1 (tk + 1 + 1)] } := by rw [<- hR]; exact Heap.get?_push_size _ rfl
  refine wpAny_items_nil ?_
  refine call_list_range (a := 65024) (b := 65040) (c := 1) (n := 16) hh r2 (by decide) (by decide) (by decide) fun h3 tk3 acc ep k3 hg3 hit => ?_
  have i2 := intsAre_of_items hit
  have hal : acc.size = 16 := hit.1
  have l1' : h3.IsList s.heap.objs.size vs.toArray := l1.at fun o e => k3 _ o (k2 _ o e)
  have l3 : h3.IsList H2.objs.size acc := ⟨_, hg3, rfl, _, rfl⟩
  refine list_concat l1' l3 ?_ (by simp [hvl, hal, sizeLine])
  refine wpAny_items_nil ?_
  generalize hH4 : h3.push { cls := .type "list", data := .seq (vs.toArray ++ acc) } = H4
  have k4 : ∀ b o, h3.get? b = some o -> H4.get? b = some o := fun b o e => by rw [<- hH4]; exact Heap.get?_push_of_some _ e
  have l4 : H4.IsList h3.objs.size (vs.toArray ++ acc) := ⟨_, by rw [<- hH4]; exact Heap.get?_push_size _ rfl, rfl, _, rfl⟩
  have ia : IntsAre (vs.toArray ++ acc).toList (b1a ++ b1b) := by rw [Array.toList_append]; simpa using hi.append i2
  have hsz : (vs.toArray ++ acc).size = 27 := by simp [hvl, hal]
  refine call_set_list hh l4 ia (by rw [hsz]; decide) fun h5 tk5 hS k5 => hQ _ h5 tk5 (fun b o e => ?_) ?_
  . have e4 := k4 b o (k3 b o (k2 b o (k1 b o e)))
    exact k5 b o (Heap.lt_size e4) e4
  . rw [hsz] at hS
    have lo : s.heap.objs.size <= H4.objs.size := by
      obtain ⟨o, e, _⟩ := l1'
      exact Nat.le_of_lt (Heap.lt_size (k4 _ _ e))
    have hPl : Pl < s.heap.objs.size := hm.code.lt.2
    exact ⟨H4.objs.size, _, rfl, Nat.ne_of_gt (Nat.lt_of_lt_of_le hPl lo), Nat.ne_of_gt (Nat.lt_of_lt_of_le (Nat.lt_trans hm.low.2 hPl) lo), hS⟩
end
end

section
open PySem

noncomputable def bd (i : Nat) : List Stmt := (fd i).body
noncomputable def scp (i : Nat) : Scope := (fd i).scope

noncomputable def glF : Str -> Option PV := fun x => if x = "_MAX_STRING_SIZE" then some (.int 40) else if x = "_MOVE_COST" then some (.int 2) else if x = "_CASE_COST" then some (.int 1) else if x = "int" then some (.typ "int") else Option.none
noncomputable def o1 : Orc := { fuel := 5000, fn := fun y_ y_ => Option.none, gl := glF }

section
variable {o : Orc} {sc : Scope} {r : Internal.Loc} {x y : Str} {p : PV} {sl sl' : Slot} {as : List PV}
theorem look_loc (h : kd sc x = some .local) : look o sc r x = (r x).map Slot.val := by unfold look; rw [h]
theorem look_cell (h : kd sc x = some .cell) : look o sc r x = (r x).map Slot.val := by unfold look; rw [h]
theorem look_free (h : kd sc x = some .free) : look o sc r x = (r x).map Slot.val := by unfold look; rw [h]
theorem look_gl (h : kd sc x = some .globalImplicit) : look o sc r x = o.gl x := by unfold look; rw [h]
theorem up_same : up x sl r x = some sl := if_pos rfl
theorem up_ne (h : (y == x) = false) : up x sl r y = r y := if_neg (by simpa using h)
theorem up_eq (h : (y == x) = true) : up x sl r y = some sl := if_pos (by simpa using h)
theorem up_upd : up x sl (up x sl' r) = up x sl r := by funext y; unfold up; split <;> rfl
theorem st_loc (h : kd sc x = some .local) : storable sc x = true := by unfold storable; rw [h]
theorem st_cell (h : kd sc x = some .cell) : storable sc x = true := by unfold storable; rw [h]
theorem call_fn {f : Str} (h : (bname f).isNone = true) : o.call f as = o.fn f as := by unfold Orc.call; rw [Option.isNone_iff_eq_none.mp h]
theorem c_len : o.call "len" as = bf .len as := rfl
theorem c_range : o.call "range" as = bf .range as := rfl
theorem c_list : o.call "list" as = bf .list as := rfl
theorem c_min : o.call "min" as = bf .min as := rfl
theorem c_sum : o.call "sum" as = bf .sum as := rfl
theorem c_abs : o.call "abs" as = bf .abs as := rfl
theorem c_chr : o.call "chr" as = bf .chr as := rfl
theorem c_ord : o.call "ord" as = bf .ord as := rfl
theorem c_type : o.call "type" as = bf .type as := rfl
theorem m_lower : mname "lower" = some .lower := rfl
theorem m_upper : mname "upper" = some .upper := rfl
theorem m_join : mname "join" = some .join := rfl
theorem m_count : mname "count" = some .count := rfl
theorem truth_bool {b : Bool} : truth (.bool b) = some b := rfl
theorem truth_int {i : Int} : truth (.int i) = some (i != 0) := rfl
theorem truth_str {s : Str} (h : s.length <= wide) : truth (.str s) = some (s.length != 0) := if_pos h
theorem evs_nil : evs o sc [] r = some [] := by simp only [v_s0, v_ss, v_s1]
theorem bind_s {α β : Type} {a : α} {f : α -> Option β} : (some a >>= f) = f a := rfl
theorem bind_n {α β : Type} {f : α -> Option β} : ((Option.none : Option α) >>= f) = Option.none := rfl
theorem map_s {α β : Type} {a : α} {f : α -> β} : (f <$> some a) = some (f a) := rfl
theorem map_n {α β : Type} {f : α -> β} : (f <$> (Option.none : Option α)) = Option.none := rfl

variable {a b : Str} {i j : Int} {l l' : List PV} {u v : Bool}
theorem x_eq_ss : cmp .Eq (.str a) (.str b) = some (a == b) := rfl
theorem x_eq_ii : cmp .Eq (.int i) (.int j) = some (i == j) := rfl
theorem x_ne_ss : cmp .NotEq (.str a) (.str b) = some (!(a == b)) := rfl
theorem x_ne_ii : cmp .NotEq (.int i) (.int j) = some (!(i == j)) := rfl
theorem x_lt : cmp .Lt (.int i) (.int j) = some (decide (i < j)) := rfl
theorem x_le : cmp .LtE (.int i) (.int j) = some (decide (i <= j)) := rfl
theorem x_gt : cmp .Gt (.int i) (.int j) = some (decide (j < i)) := rfl
theorem x_in_ss : cmp .In (.str a) (.str b) = some (strIn a b) := rfl
theorem x_nin_ss : cmp .NotIn (.str a) (.str b) = some (!strIn a b) := rfl
theorem x_is_bb : cmp .Is (.bool u) (.bool v) = some (u == v) := rfl
theorem x_isn_bb : cmp .IsNot (.bool u) (.bool v) = some (!(u == v)) := rfl
theorem x_isn_sn : cmp .IsNot (.str a) .none = some true := rfl
theorem x_isn_nn : cmp .IsNot .none .none = some false := rfl
theorem x_isn_in : cmp .IsNot (.int i) .none = some true := rfl
theorem x_is_in : cmp .Is (.int i) .none = some false := rfl
theorem x_isn_tt {a b : String} : cmp .IsNot (.typ a) (.typ b) = some (!(a == b)) := rfl
theorem y_add_ii : bin .Add (.int i) (.int j) = some (.int (i + j)) := rfl
theorem y_sub_ii : bin .Sub (.int i) (.int j) = some (.int (i - j)) := rfl
theorem y_mod (h : j ≠ 0) : bin .Mod (.int i) (.int j) = some (.int (i.fmod j)) := if_neg h
theorem y_fdiv (h : (decide (j ≠ 0) && small j) = true) : bin .FloorDiv (.int i) (.int j) = some (.int (i.fdiv j)) := by
  simp only [Bool.and_eq_true, decide_eq_true_eq] at h
  exact (if_neg h.1).trans (if_pos h.2)
theorem y_add_ss (h : a.length + b.length <= wide) : bin .Add (.str a) (.str b) = some (.str (a ++ b)) := if_pos h
theorem y_add_ll (h : l.length + l'.length <= wide) : bin .Add (.lst l) (.lst l') = some (.lst (l ++ l')) := if_pos h
theorem y_mul (h : (small i && small j) = true) : bin .Mult (.int i) (.int j) = some (.int (i * j)) := if_pos h
theorem frz_in {xs : List Str} {r : Internal.Loc} (h : xs.contains x = true) : frz xs r x = (r x).map fun sl => .pv sl.val := if_pos (List.contains_iff_mem.mp h)
theorem frz_out {xs : List Str} {r : Internal.Loc} (h : xs.contains x = false) : frz xs r x = r x := if_neg fun q => by rw [List.contains_iff_mem.mpr q] at h; cases h
theorem frz_nil {r : Internal.Loc} : frz [] r = r := by funext y; simp [frz]
theorem str_ne {x y : Str} (h : (x == y) = false) : (x = y) = False := by simpa using h
theorem slot_i {e : Expr} : slotOf e (.int i) = .pv (.int i) := by unfold slotOf; cases fresh e <;> rfl
theorem slot_s {e : Expr} : slotOf e (.str a) = .pv (.str a) := by unfold slotOf; cases fresh e <;> rfl
theorem slot_b {e : Expr} : slotOf e (.bool u) = .pv (.bool u) := by unfold slotOf; cases fresh e <;> rfl
theorem slot_own {e : Expr} (h : fresh e = true) : slotOf e (.lst l) = .own l := by unfold slotOf; rw [h]
theorem slot_pv {e : Expr} (h : fresh e = false) : slotOf e p = .pv p := by unfold slotOf; rw [h]
theorem ints_map' : ∀ (l : List Int), ints? (l.map PV.int) = some l
  | [] => rfl
  | x :: l => by show (ints? (l.map PV.int)).map (x :: ·) = _; rw [ints_map' l]; rfl
theorem okComp_t {s : Scope} (h : okComp sc s = true) : okComp sc s = true := h
theorem under_f {r : Internal.Loc} (h : kd sc x = some .free) : under sc r x = r x := by unfold under; rw [h]
theorem under_l {r : Internal.Loc} (h : kd sc x = some .local) : under sc r x = Option.none := by unfold under; rw [h]
theorem under_c {r : Internal.Loc} (h : kd sc x = some .cell) : under sc r x = Option.none := by unfold under; rw [h]
theorem iter_l {l : List PV} : iterOf (.lst l) = some l := rfl
theorem iter_t {l : List PV} : iterOf (.tup l) = some l := rfl
theorem iter_r {a b c : Int} : iterOf (.rng a b c) = some (rngList a b c) := rfl
theorem x_le_ll {a b : List Int} : cmp .LtE (.lst (a.map .int)) (.lst (b.map .int)) = some (leInts a b) := by
  show (match ints? (a.map PV.int), ints? (b.map PV.int) with | some a, some b => some (leInts a b) | _, _ => Option.none) = _
  simp only [ints_map']
theorem enc_len {a : List Int} (h : a.length <= wide) : bf .len [.lst (a.map .int)] = some (.int a.length) := by
  have : bf .len [.lst (a.map .int)] = if (a.map PV.int).length <= wide then some (.int (a.map PV.int).length) else Option.none := rfl
  rw [this, List.length_map, if_pos h]
theorem y_pow (h : (small i && decide (0 <= j) && decide (j < 1000)) = true) : bin .Pow (.int i) (.int j) = some (.int (i ^ j.toNat)) := if_pos h
theorem bf_range3 {m : Int} (h : (tiny i && tiny j && tiny m && decide (m ≠ 0)) = true) : bf .range [.int i, .int j, .int m] = some (.rng i j m) := if_pos h
theorem bf_abs : bf .abs [.int i] = some (.int (if i < 0 then -i else i)) := rfl
theorem bf_sum {l : List PV} : bf .sum [.lst l] = (ints? l).map fun l => .int l.sum := rfl
theorem bf_range1 (h : tiny j = true) : bf .range [.int j] = some (.rng 0 j 1) := if_pos h
theorem le_w {n k : Nat} (h : n <= k) (e : k <= wide) : n <= wide := Nat.le_trans h e
theorem lt_m {n k : Nat} (h : n <= k) (e : k < 1000000) : n < 1000000 := Nat.lt_of_le_of_lt h e
theorem tiny_n {n k : Nat} (h : n <= k) (e : k <= 10000) : tiny n = true := by
  have := Int.ofNat_le.mpr (Nat.le_trans h e)
  simp only [tiny, Bool.and_eq_true, decide_eq_true_eq]
  exact ⟨Int.lt_of_lt_of_le (by decide) (Int.natCast_nonneg n), Int.lt_of_le_of_lt this (by decide)⟩
theorem small_m {k : Nat} (h : k < 1000000) : small (k : Int) = true := by
  unfold small; simp only [Bool.and_eq_true, decide_eq_true_eq, big]
  exact ⟨Int.lt_of_lt_of_le (by decide) (Int.natCast_nonneg k), Int.lt_trans (Int.ofNat_lt.mpr h) (by decide)⟩
theorem seq_nat {k n : Nat} (h : k < n) : seqIndex? (k : Int) n = some k := by
  unfold seqIndex?
  have h2 : (0 <= (k : Int) && (k : Int) < (n : Int)) = true := Bool.and_eq_true_iff.mpr ⟨decide_eq_true (Int.natCast_nonneg k), decide_eq_true (Int.ofNat_lt.mpr h)⟩
  simp only [Int.not_lt.mpr (Int.natCast_nonneg k), if_false, h2, if_true, Int.toNat_natCast]
theorem tiny2 {a b : Int} (ha : tiny a = true) (hb : tiny b = true) : (tiny a && tiny b) = true := by rw [ha, hb]; rfl
theorem fl_w {α : Type} {q : Nat -> Bool} {g : Nat -> α} {n k : Nat} (h : n <= k) (e : k <= wide) : (((List.range n).filter q).map g).length <= wide := by
  rw [List.length_map]; exact Nat.le_trans (List.length_filter_le _ _) (by rw [List.length_range]; exact Nat.le_trans h e)
theorem bf_range2 (h : (tiny i && tiny j) = true) : bf .range [.int i, .int j] = some (.rng i j 1) := if_pos h
theorem esc1_call {f : Expr} {p : Pos} {es : List Expr} {ks : List Keyword} : esc.esc' (.Call f es ks p) = esc (.Call f es ks p) := by rfl
theorem esc1_bin {a b : Expr} {op : Operator} {p : Pos} : esc.esc' (.BinOp a op b p) = esc.esc' a ++ esc.esc' b := by rfl
theorem esc1_un {a : Expr} {op : UnaryOp} {p : Pos} : esc.esc' (.UnaryOp op a p) = [] := by rfl
theorem esc1_const {c : Const} {k : Nat} {p : Pos} : esc.esc' (.Constant c k p) = [] := by rfl
theorem esc1_cmp {e : Expr} {os : List CmpOp} {es : List Expr} {p : Pos} : esc.esc' (.Compare e os es p) = [] := by rfl
theorem esc1_comp {e : Expr} {gs : List Comprehension} {s : Scope} {p : Pos} : esc.esc' (.ListComp e gs s p) = esc e := by rfl
theorem esc1_tup {es : List Expr} {k : Nat} {p : Pos} : esc.esc' (.Tuple es k p) = esc.escs es := by rfl
theorem esc1_if {a b c : Expr} {p : Pos} : esc.esc' (.IfExp a b c p) = esc b ++ esc c := by rfl
theorem esc1_bool {op : BoolOp} {es : List Expr} {p : Pos} : esc.esc' (.BoolOp op es p) = esc.escs es := by rfl
theorem esc_bf {f : Str} {q p : Pos} {es : List Expr} {ks : List Keyword} (h : (bname f).isSome = true) : esc (.Call (.Name f q) es ks p) = [] := by simp [s_n, s_if, s_bool, s_list, s_tup, s_comp, s_call, s_meth, s_sub, s_bin, s_c, s_cmp, s_un, h]
theorem esc_fn {f : Str} {q p : Pos} {es : List Expr} {ks : List Keyword} (h : (bname f).isSome = false) : esc (.Call (.Name f q) es ks p) = esc.escs es := by simp [s_n, s_if, s_bool, s_list, s_tup, s_comp, s_call, s_meth, s_sub, s_bin, s_c, s_cmp, s_un, h]
theorem esc_name {f : Str} {q : Pos} : esc (.Name f q) = [f] := by rfl
theorem esc_bin {a b : Expr} {op : Operator} {p : Pos} : esc (.BinOp a op b p) = esc.esc' a ++ esc.esc' b := by rfl
theorem esc_comp {e : Expr} {gs : List Comprehension} {s : Scope} {p : Pos} : esc (.ListComp e gs s p) = esc e := by rfl
theorem esc_lst {es : List Expr} {p : Pos} : esc (.List es p) = esc.escs es := by rfl
theorem esc_tup {es : List Expr} {k : Nat} {p : Pos} : esc (.Tuple es k p) = esc.escs es := by rfl
theorem esc_sub {e i : Expr} {p : Pos} : esc (.Subscript e i p) = esc.esc' e := by rfl
theorem esc_if {a b c : Expr} {p : Pos} : esc (.IfExp a b c p) = esc b ++ esc c := by rfl
theorem escs_nil : esc.escs [] = [] := by rfl
theorem escs_cons {e : Expr} {es : List Expr} : esc.escs (e :: es) = esc e ++ esc.escs es := by rfl
theorem esc1_name {f : Str} {q : Pos} : esc.esc' (.Name f q) = [] := by rfl
theorem esc1_sub {e i : Expr} {q : Pos} : esc.esc' (.Subscript e i q) = esc.esc' e := by rfl
theorem esc1_lst {es : List Expr} {q : Pos} : esc.esc' (.List es q) = esc.escs es := by rfl
theorem esc1_attr {e : Expr} {m : Str} {q p : Pos} {es : List Expr} {ks : List Keyword} : esc.esc' (.Call (.Attribute e m q) es ks p) = [] := by rfl
theorem esc_const {c : Const} {k : Nat} {p : Pos} : esc (.Constant c k p) = [] := by rfl
theorem esc_cmp {e : Expr} {os : List CmpOp} {es : List Expr} {p : Pos} : esc (.Compare e os es p) = [] := by rfl
theorem esc_un {op : UnaryOp} {e : Expr} {p : Pos} : esc (.UnaryOp op e p) = [] := by rfl
theorem esc_meth {e : Expr} {m : Str} {q p : Pos} {es : List Expr} {ks : List Keyword} : esc (.Call (.Attribute e m q) es ks p) = [] := by rfl
theorem ints_map (l : List Int) : ints? (l.map PV.int) = some l := ints_map' l
end

noncomputable def bodyOf : Stmt -> List Stmt
  | .For _ _ b _ _ => b
  | .While _ b _ _ => b
  | .If _ b _ _ => b
  | _ => []
noncomputable def testOf : Stmt -> Expr
  | .While t _ _ _ => t
  | .If t _ _ _ => t
  | _ => .Constant .none 0 default
noncomputable def targetOf : Stmt -> Expr
  | .For t _ _ _ _ => t
  | _ => .Constant .none 0 default
noncomputable def iterE : Stmt -> Expr
  | .For _ i _ _ _ => i
  | _ => .Constant .none 0 default
noncomputable def nth (l : List Stmt) (i : Nat) : Stmt := l.getD i (.Pass default)


section
variable {σ α : Type} {o : Orc} {sc : Scope}
noncomputable def foldO (f : σ -> α -> Option (Sum σ PV)) : σ -> List α -> Option (Sum σ PV)
  | s, [] => some (.inl s)
  | s, a :: l => match f s a with
    | some (.inl s') => foldO f s' l
    | x => x
theorem foldO_r {f : σ -> α -> Option (Sum σ PV)} {s : σ} {a : α} {l : List α} {y : Option (Sum σ PV)} (e : f s a = y) : foldO f s (a :: l) = (match (generalizing := false) y with | some (.inl s') => foldO f s' l | x => x) := by subst e; rfl
theorem foldO_l {f : σ -> α -> Option (Sum σ PV)} {s s' : σ} {a : α} {l : List α} (e : f s a = some (.inl s')) : foldO f s (a :: l) = foldO f s' l := foldO_r e
theorem foldO_n {f : σ -> α -> Option (Sum σ PV)} {s : σ} : foldO f s [] = some (.inl s) := rfl
noncomputable def whileO (t : σ -> Bool) (f : σ -> Option (Sum σ PV)) : Nat -> σ -> Option (Sum σ PV)
  | 0, _ => Option.none
  | n + 1, s => if t s = true then (match f s with
      | some (.inl s') => whileO t f n s'
      | x => x) else some (.inl s)
noncomputable def Good (I : σ -> Internal.Loc -> Prop) : Sum σ PV -> Out -> Prop
  | .inl s, .next r => I s r
  | .inr p, .ret q => p = q
  | _, _ => False
theorem for_fold {I : σ -> Internal.Loc -> Prop} {F : PV -> Internal.Loc -> Option Out} {f : σ -> α -> Option (Sum σ PV)} {enc : α -> PV} (hF : ∀ s a r x, I s r -> f s a = some x -> ∃ out, F (enc a) r = some out /\ Good I x out) :
    ∀ (l : List α) (s : σ) (r : Internal.Loc) (x : Sum σ PV), I s r -> foldO f s l = some x -> ∃ out, forF F (l.map enc) r = some out /\ Good I x out := by
  intro l
  induction l with
  | nil => intro s r x hI h; cases h; exact ⟨.next r, rfl, hI⟩
  | cons a l ih =>
    intro s r x hI h
    cases e : f s a with
    | none => rw [foldO_r e] at h; cases h
    | some y =>
      obtain ⟨out, h1, h2⟩ := hF s a r y hI e
      rw [foldO_r e] at h
      cases y with
      | inl s' =>
        cases out with
        | next r' =>
          obtain ⟨out, h3, h4⟩ := ih s' r' x h2 h
          exact ⟨out, by rw [List.map_cons, forF_r h1]; exact h3, h4⟩
        | ret p => exact h2.elim
      | inr p =>
        cases h
        cases out with
        | next r' => exact h2.elim
        | ret q => exact ⟨.ret q, by rw [List.map_cons, forF_r h1], h2⟩
theorem for_mem {I : σ -> Internal.Loc -> Prop} {F : PV -> Internal.Loc -> Option Out} {f : σ -> α -> Option (Sum σ PV)} {enc : α -> PV} :
    ∀ (l : List α) (_ : ∀ a ∈ l, ∀ s r x, I s r -> f s a = some x -> ∃ out, F (enc a) r = some out /\ Good I x out) (s : σ) (r : Internal.Loc) (x : Sum σ PV), I s r -> foldO f s l = some x -> ∃ out, forF F (l.map enc) r = some out /\ Good I x out := by
  intro l
  induction l with
  | nil => intro _ s r x hI h; cases h; exact ⟨.next r, rfl, hI⟩
  | cons a l ih =>
    intro hF s r x hI h
    cases e : f s a with
    | none => rw [foldO_r e] at h; cases h
    | some y =>
      obtain ⟨out, h1, h2⟩ := hF a List.mem_cons_self s r y hI e
      rw [foldO_r e] at h
      cases y with
      | inl s' =>
        cases out with
        | next r' =>
          obtain ⟨out, h3, h4⟩ := ih (fun b hb => hF b (List.mem_cons_of_mem _ hb)) s' r' x h2 h
          exact ⟨out, by rw [List.map_cons, forF_r h1]; exact h3, h4⟩
        | ret p => exact h2.elim
      | inr p =>
        cases h
        cases out with
        | next r' => exact h2.elim
        | ret q => exact ⟨.ret q, by rw [List.map_cons, forF_r h1], h2⟩
theorem while_fold {I : σ -> Internal.Loc -> Prop} {T : Internal.Loc -> Option Bool} {F : Internal.Loc -> Option Out} {t : σ -> Bool} {f : σ -> Option (Sum σ PV)} (hT : ∀ s r, I s r -> T r = some (t s))
    (hF : ∀ s r x, I s r -> t s = true -> f s = some x -> ∃ out, F r = some out /\ Good I x out) :
    ∀ (n N : Nat) (s : σ) (r : Internal.Loc) (x : Sum σ PV), n <= N -> I s r -> whileO t f n s = some x -> ∃ out, whileF T F N r = some out /\ Good I x out := by
  intro n
  induction n with
  | zero => intro N s r x _ _ h; cases h
  | succ n ih =>
    intro N s r x hN hI h
    obtain ⟨N, rfl⟩ : ∃ M, N = M + 1 := ⟨N - 1, (Nat.sub_add_cancel (Nat.le_trans (Nat.le_add_left 1 _) (by assumption))).symm⟩
    change (if t s = true then _ else _) = some x at h
    by_cases ht : t s = true
    . rw [if_pos ht] at h
      cases e : f s with
      | none => rw [e] at h; cases h
      | some y =>
        obtain ⟨out, h1, h2⟩ := hF s r y hI ht e
        rw [e] at h
        cases y with
        | inl s' =>
          cases out with
          | next r' =>
            obtain ⟨out, h3, h4⟩ := ih N s' r' x (by lia) h2 h
            exact ⟨out, by simp only [whileF, hT s r hI, ht, h1]; exact h3, h4⟩
          | ret p => exact h2.elim
        | inr p =>
          cases h
          cases out with
          | next r' => exact h2.elim
          | ret q => exact ⟨.ret q, by simp only [whileF, hT s r hI, ht, h1], h2⟩
    . rw [if_neg ht] at h
      cases h
      have ht' : t s = false := by simpa using ht
      exact ⟨.next r, by simp only [whileF, hT s r hI, ht'], hI⟩
theorem exec_for' {st : Stmt} {p : Pos} {r : Internal.Loc} {x : PV} {ps : List PV} (hst : st = .For (targetOf st) (iterE st) (bodyOf st) [] p) (hx : ev o sc (iterE st) r = some x) (hps : iterOf x = some ps) :
    Internal.exec o sc st r = forF (fun p r => do let r' <- bindT sc (targetOf st) p r; Internal.execs o sc (bodyOf st) r') ps (frz (esc (iterE st)) r) := by
  rw [hst]
  simp only [w_ret, w_asg, w_aug, w_if, w_while, w_for, w_app]
  have e1 : ev o sc (iterE st) r = some x := hx
  show (ev o sc (iterE st) r >>= fun x => iterOf x >>= fun ps => _) = _
  rw [e1, bind_s, hps, bind_s]
  rfl
theorem exec_while' {st : Stmt} {p : Pos} {r : Internal.Loc} (hst : st = .While (testOf st) (bodyOf st) [] p) :
    Internal.exec o sc st r = whileF (fun r => (ev o sc (testOf st) r).bind truth) (fun r => Internal.execs o sc (bodyOf st) r) o.fuel r := by
  rw [hst]
  simp only [w_ret, w_asg, w_aug, w_if, w_while, w_for, w_app]
  rfl
theorem execs_next {s : Stmt} {ss : List Stmt} {r r' : Internal.Loc} (h : Internal.exec o sc s r = some (.next r')) : Internal.execs o sc (s :: ss) r = Internal.execs o sc ss r' := by simp only [w_nil, w_cons, h]
theorem execs_ret {s : Stmt} {ss : List Stmt} {r : Internal.Loc} {p : PV} (h : Internal.exec o sc s r = some (.ret p)) : Internal.execs o sc (s :: ss) r = some (.ret p) := by simp only [w_nil, w_cons, h]
theorem execs_one {s : Stmt} {r : Internal.Loc} {out : Out} (h : Internal.exec o sc s r = some out) : Internal.execs o sc [s] r = some out := by
  cases out <;> simp only [w_nil, w_cons, h]
theorem callF_of {names : List Str} {body : List Stmt} {as : List PV} {p : PV} (hl : as.length = names.length) (h : Internal.execs o sc body (upAll names as fun y_ => Option.none) = some (.ret p)) : callF o names body sc as = some p := by
  unfold callF; rw [if_pos hl, h]
theorem turns_map {f : PV -> Option (List PV)} {enc : α -> PV} {g : α -> List PV} : ∀ (l : List α), (∀ a ∈ l, f (enc a) = some (g a)) -> turns f (l.map enc) = some (l.flatMap g)
  | [], _ => rfl
  | a :: l, h => by
    simp only [List.map_cons, turns, h a List.mem_cons_self, bind_s, turns_map l fun b hb => h b (List.mem_cons_of_mem _ hb), List.flatMap_cons]
theorem turns_one {f : PV -> Option (List PV)} {enc : α -> PV} {g : α -> PV} (l : List α) (h : ∀ a ∈ l, f (enc a) = some [g a]) : turns f (l.map enc) = some (l.map g) := by
  rw [turns_map (g := fun a => [g a]) l h, List.map_eq_flatMap]
end

theorem rng_eq (a b : Int) (n : Nat) (h : b - a = n) : rngList a b 1 = (List.range n).map fun (i : Nat) => PV.int (a + i) := by
  have e : (Builtin.Range.rangeSize a b 1).toNat = n := by
    unfold Builtin.Range.rangeSize
    simp
    split
    . rw [h]; rfl
    . rename_i hn
      have := Int.sub_nonpos_of_le (Int.not_lt.mp hn); rw [h] at this; exact (Nat.le_zero.mp (Int.ofNat_le.mp this)).symm
  unfold rngList
  rw [e]
  simp
theorem rng_zero (n : Nat) : rngList 0 (n : Int) 1 = (List.range n).map fun (i : Nat) => PV.int i := by
  rw [rng_eq 0 n n (by lia)]
  simp

theorem rng_pow (n : Nat) : rngList 0 ((2 : Int) ^ n) 1 = (List.range (2 ^ n)).map fun (i : Nat) => PV.int i := by
  have := rng_zero (2 ^ n)
  simpa using this
theorem turns_filter {α : Type} {f : PV -> Option (List PV)} {enc g : α -> PV} {q : α -> Bool} : ∀ (l : List α), (∀ a ∈ l, f (enc a) = some (if q a then [g a] else [])) -> turns f (l.map enc) = some ((l.filter q).map g)
  | [], _ => rfl
  | a :: l, h => by
    simp only [List.map_cons, turns, h a List.mem_cons_self, bind_s, turns_filter l fun b hb => h b (List.mem_cons_of_mem _ hb)]
    cases hq : q a <;> simp [hq]
theorem be_0 {sc : Scope} {r : Internal.Loc} : bindEach sc [] [] [] r = some r := rfl
theorem be_1 {sc : Scope} {r : Internal.Loc} {x : Str} {q : Pos} {ts es : List Expr} {e : Expr} {p : PV} {ps : List PV} : bindEach sc (.Name x q :: ts) (e :: es) (p :: ps) r = if storable sc x = true then bindEach sc ts es ps (up x (if emp e = true then .own [] else .pv p) r) else Option.none := rfl
theorem ub_n {r : Internal.Loc} {x : Str} {q : Pos} : unbound r (.Name x q) = (r x).isNone := rfl
theorem lstOf_s {l : List PV} (h : l.length <= wide) : lstOf (some l) = some (.lst l) := if_pos h

noncomputable def unseenL : List Int := b1a ++ b1b
theorem unseen_eq : callF o1 [] (bd 16) (scp 16) [] = some (.lst (unseenL.map .int)) := by rfl
end

section
open PySem

noncomputable def locK (sc : Scope) (x : Str) : Bool := match kd sc x with
  | some .local | some .cell | some .free => true
  | _ => false
noncomputable def gloK (sc : Scope) (x : Str) : Bool := match kd sc x with
  | some .globalImplicit => true
  | _ => false
section
variable {o : Orc} {sc : Scope} {r r' : Internal.Loc} {p q p1 p2 p3 p4 : Pos} {x y f : Str} {a b c e t : Expr} {es ts : List Expr} {u v w z : PV} {us vs : List PV} {sl : Slot} {k n : Nat} {L : List Str}
theorem look_k (h : locK sc x = true) : look o sc r x = (r x).map Slot.val := by
  unfold locK at h
  unfold look
  cases e : kd sc x with
  | none => rw [e] at h; exact bs h
  | some k => rw [e] at h; cases k <;> first | rfl | exact bs h
theorem look_g (h : gloK sc x = true) : look o sc r x = o.gl x := by
  unfold gloK at h
  unfold look
  cases e : kd sc x with
  | none => rw [e] at h; exact bs h
  | some k => rw [e] at h; cases k <;> first | rfl | exact bs h
theorem kd_g (h : gloK sc x = true) : kd sc x = some .globalImplicit := by
  unfold gloK at h
  cases e : kd sc x with
  | none => rw [e] at h; exact bs h
  | some k => rw [e] at h; cases k <;> first | rfl | exact bs h
theorem k_nm (h : locK sc x = true) (e : (r x).map Slot.val = some v) : ev o sc (.Name x p) r = some v := (look_k h).trans e
theorem k_np (h : locK sc x = true) (e : r x = some (.pv v)) : ev o sc (.Name x p) r = some v := k_nm h (by rw [e]; rfl)
theorem k_no {l : List PV} (h : locK sc x = true) (e : r x = some (.own l)) : ev o sc (.Name x p) r = some (.lst l) := k_nm h (by rw [e]; rfl)
theorem k_ng (h : gloK sc x = true) (e : o.gl x = some v) : ev o sc (.Name x p) r = some v := (look_g h).trans e
theorem k_c {c : Const} (h : constPV c = some v) : ev o sc (.Constant c k p) r = some v := h
theorem k_bin {op : Operator} (h1 : ev o sc a r = some u) (h2 : ev o sc b r = some v) (h : bin op u v = some w) : ev o sc (.BinOp a op b p) r = some w := by
  rw [v_bin, h1, h2]; exact h
theorem k_not {b' : Bool} (h1 : ev o sc a r = some u) (h : truth u = some b') : ev o sc (.UnaryOp .Not a p) r = some (.bool (!b')) := by
  rw [v_not, h1]; show (truth u).bind _ = _; rw [h]; rfl
theorem k_neg {i : Int} (h1 : ev o sc a r = some (.int i)) : ev o sc (.UnaryOp .USub a p) r = some (.int (-i)) := by
  rw [v_neg, h1]; rfl
theorem k_ifT (h1 : ev o sc t r = some u) (h2 : truth u = some true) (h : ev o sc a r = some w) : ev o sc (.IfExp t a b p) r = some w := by
  rw [v_if, h1]; show (truth u).bind _ = _; rw [h2]; exact h
theorem k_ifF (h1 : ev o sc t r = some u) (h2 : truth u = some false) (h : ev o sc b r = some w) : ev o sc (.IfExp t a b p) r = some w := by
  rw [v_if, h1]; show (truth u).bind _ = _; rw [h2]; exact h
theorem le100 (h : Nat.ble es.length 100 = true) : es.length <= 100 := Nat.le_of_ble_eq_true h
theorem k_list (h : Nat.ble es.length 100 = true) (h1 : evs o sc es r = some us) : ev o sc (.List es p) r = some (.lst us) := by
  rw [v_list, if_pos (le100 h), h1]; rfl
theorem k_tup (h : Nat.ble es.length 100 = true) (h1 : evs o sc es r = some us) : ev o sc (.Tuple es k p) r = some (.tup us) := by
  rw [v_tup, if_pos (le100 h), h1]; rfl
theorem k_cmp {op : CmpOp} {d : Bool} (h1 : ev o sc a r = some u) (h2 : ev o sc b r = some v) (h : cmp op u v = some d) : ev o sc (.Compare a [op] [b] p) r = some (.bool d) := by
  rw [v_cmp1, h1, h2]; show (cmp op u v).bind _ = _; rw [h]; rfl
theorem k_cmpT {op op' : CmpOp} {d : Bool} (h1 : ev o sc a r = some u) (h2 : ev o sc b r = some v) (h : cmp op u v = some true) (h3 : ev o sc c r = some w) (h' : cmp op' v w = some d) : ev o sc (.Compare a [op, op'] [b, c] p) r = some (.bool d) := by
  rw [v_cmp2, h1, h2]; show (cmp op u v).bind _ = _; rw [h]; show (ev o sc c r).bind _ = _; rw [h3]; show (cmp op' v w).bind _ = _; rw [h']; rfl
theorem k_cmpF {op op' : CmpOp} (h1 : ev o sc a r = some u) (h2 : ev o sc b r = some v) (h : cmp op u v = some false) : ev o sc (.Compare a [op, op'] [b, c] p) r = some (.bool false) := by
  rw [v_cmp2, h1, h2]; show (cmp op u v).bind _ = _; rw [h]; rfl
theorem k_call (h : gloK sc f = true) (h1 : evs o sc es r = some us) (h2 : o.call f us = some w) : ev o sc (.Call (.Name f q) es [] p) r = some w := by
  rw [v_call, h1]; exact (if_pos (kd_g h)).trans h2
theorem k_meth {m : Str} {bm : BM} (h1 : ev o sc e r = some u) (h2 : evs o sc es r = some us) (h3 : methOk e es.length q.endLine p.line = true) (h4 : mname m = some bm) (h : bmeth bm u us = some w) : ev o sc (.Call (.Attribute e m q) es [] p) r = some w := by
  rw [v_meth, h1, h2]; refine (if_pos h3).trans ?_; rw [h4]; exact h
theorem k_slc {l u' s : Option Expr} (h1 : ev o sc e r = some u) (h2 : evOpt o sc l r = some v) (h3 : evOpt o sc u' r = some w) (h4 : evOpt o sc s r = some z) {ans : PV} (h : slice u v w z = some ans) : ev o sc (.Subscript e (.Slice l u' s q) p) r = some ans := by
  rw [v_slc, h1, h2, h3, h4]; exact h
theorem k_sub (hi : isSlc b = false) (h1 : ev o sc a r = some u) (h2 : ev o sc b r = some v) (h : subsc u v = some w) : ev o sc (.Subscript a b p) r = some w := by
  rw [v_su2 hi, h1, h2]; exact h
theorem k_bool {op : BoolOp} (h : evBool o sc op es r = some w) : ev o sc (.BoolOp op es p) r = some w := h
theorem k_b1 {op : BoolOp} (h : ev o sc e r = some w) : evBool o sc op [e] r = some w := h
theorem k_andT (h : ev o sc e r = some u) (h1 : truth u = some true) (h2 : evBool o sc .And (a :: es) r = some w) : evBool o sc .And (e :: a :: es) r = some w := by
  rw [v_b2, h]; show (truth u).bind _ = _; rw [h1]; exact h2
theorem k_andF (h : ev o sc e r = some u) (h1 : truth u = some false) : evBool o sc .And (e :: a :: es) r = some u := by
  rw [v_b2, h]; show (truth u).bind _ = _; rw [h1]; rfl
theorem k_orT (h : ev o sc e r = some u) (h1 : truth u = some true) : evBool o sc .Or (e :: a :: es) r = some u := by
  rw [v_b2, h]; show (truth u).bind _ = _; rw [h1]; rfl
theorem k_orF (h : ev o sc e r = some u) (h1 : truth u = some false) (h2 : evBool o sc .Or (a :: es) r = some w) : evBool o sc .Or (e :: a :: es) r = some w := by
  rw [v_b2, h]; show (truth u).bind _ = _; rw [h1]; exact h2
theorem k_s0 : evs o sc [] r = some [] := rfl
theorem k_s1 (h : isStar e = false) (h1 : ev o sc e r = some u) (h2 : evs o sc es r = some us) : evs o sc (e :: es) r = some (u :: us) := by
  rw [v_s2 h, h1, h2]; rfl
theorem k_o0 : evOpt o sc Option.none r = some .none := rfl
theorem k_o1 (h : ev o sc e r = some u) : evOpt o sc (some e) r = some u := h
theorem ag_add {i j : Int} : augF .Add i j = some (i + j) := rfl
theorem ag_sub {i j : Int} : augF .Sub i j = some (i - j) := rfl
theorem mn_ii {i j : Int} : bf .min [.int i, .int j] = some (.int (if j < i then j else i)) := rfl
theorem tr_i {i : Int} {d : Bool} (h : (i != 0) = d) : truth (.int i) = some d := congrArg some h
theorem xk_le {i j : Int} {d : Bool} (h : decide (i <= j) = d) : cmp .LtE (.int i) (.int j) = some d := congrArg some h
theorem xk_lt {i j : Int} {d : Bool} (h : decide (i < j) = d) : cmp .Lt (.int i) (.int j) = some d := congrArg some h
theorem xk_gt {i j : Int} {d : Bool} (h : decide (j < i) = d) : cmp .Gt (.int i) (.int j) = some d := congrArg some h
theorem tr_nt : truth (.bool (!true)) = some false := rfl
theorem tr_nf : truth (.bool (!false)) = some true := rfl
theorem x_is_tt : cmp .Is (.bool true) (.bool true) = some true := rfl
theorem x_is_ft : cmp .Is (.bool false) (.bool true) = some false := rfl
theorem x_is_ff : cmp .Is (.bool false) (.bool false) = some true := rfl
theorem x_is_tf : cmp .Is (.bool true) (.bool false) = some false := rfl
theorem tr_b {d : Bool} : truth (.bool d) = some d := rfl
theorem tr_h {d d' : Bool} (h : d = d') : truth (.bool d) = some d' := congrArg some h
theorem k_comp {gs : List Comprehension} {ifs : List Expr} {i : Int} {s : Scope} (h1 : ev o sc e r = some u) (h2 : iterOf u = some us) (h3 : compOk sc s e i gs = true) {l : List PV}
    (h : turns (fun p => do
      let r' <- bindT s t p (under s r)
      if <- evIfs o s ifs r' then evGens o s (ev o s a) gs r' else some []) us = some l) (hl : l.length <= wide) : ev o sc (.ListComp a (⟨t, e, ifs, i⟩ :: gs) s p) r = some (.lst l) := by
  rw [v_comp, h1]; show (iterOf u).bind _ = _; rw [h2]; refine (if_pos h3).trans ?_; rw [h]; exact if_pos hl
theorem k_one {x : Str} {s : Scope} (hx : storable s x = true) (h : ev o s a (up x (.pv u) (under s r)) = some w) : (do
      let r' <- bindT s (.Name x q) u (under s r)
      if <- evIfs o s [] r' then evGens o s (ev o s a) [] r' else some []) = some [w] := by
  rw [u_n, if_pos hx]; show (ev o s a _).map _ = _; rw [h]; rfl
theorem k_if1 {x : Str} {s : Scope} {d : Bool} (hx : storable s x = true) (hc : ev o s c (up x (.pv u) (under s r)) = some v) (ht : truth v = some d) (h : ev o s a (up x (.pv u) (under s r)) = some w) : (do
      let r' <- bindT s (.Name x q) u (under s r)
      if <- evIfs o s [c] r' then evGens o s (ev o s a) [] r' else some []) = some (if d then [w] else []) := by
  rw [u_n, if_pos hx]
  show (do if <- evIfs o s [c] (up x (.pv u) (under s r)) then evGens o s (ev o s a) [] (up x (.pv u) (under s r)) else some []) = _
  rw [v_i1, hc]
  show ((truth v).bind fun b => if b = true then evIfs o s [] (up x (.pv u) (under s r)) else some false).bind _ = _
  rw [ht]
  cases d with
  | false => rfl
  | true => show (ev o s a _).map _ = _; rw [h]; rfl
theorem k_if2 {x : Str} {s : Scope} {d : Bool} {r : Internal.Loc} (hx : storable s x = true) (hc : ev o s c (up x (.pv u) r) = some v) (ht : truth v = some d) (h : d = true -> ev o s a (up x (.pv u) r) = some w) : (do
      let r' <- bindT s (.Name x q) u r
      if <- evIfs o s [c] r' then evGens o s (ev o s a) [] r' else some []) = some (if d then [w] else []) := by
  rw [u_n, if_pos hx]
  show (do if <- evIfs o s [c] (up x (.pv u) r) then evGens o s (ev o s a) [] (up x (.pv u) r) else some []) = _
  rw [v_i1, hc]
  show ((truth v).bind fun b => if b = true then evIfs o s [] (up x (.pv u) r) else some false).bind _ = _
  rw [ht]
  cases d with
  | false => rfl
  | true => show (ev o s a _).map _ = _; rw [h rfl]; rfl
theorem k_two {x : Str} {s : Scope} {t' it' : Expr} {ifs' : List Expr} {l us' : List PV} (hx : storable s x = true) (h1 : ev o s it' (up x (.pv u) (under s r)) = some v) (h2 : iterOf v = some us') (h3 : unbound (up x (.pv u) (under s r)) t' = true) (h4 : noEsc it' = true)
    (h : turns (fun p => do
      let r' <- bindT s t' p (up x (.pv u) (under s r))
      if <- evIfs o s ifs' r' then evGens o s (ev o s a) [] r' else some []) us' = some l) : (do
      let r' <- bindT s (.Name x q) u (under s r)
      if <- evIfs o s [] r' then evGens o s (ev o s a) [⟨t', it', ifs', 0⟩] r' else some []) = some l := by
  rw [u_n, if_pos hx]
  show evGens o s (ev o s a) [⟨t', it', ifs', 0⟩] (up x (.pv u) (under s r)) = _
  rw [v_g1, h1]
  show (iterOf v).bind _ = _
  rw [h2]
  exact (if_pos ⟨rfl, h3, h4⟩).trans h
theorem k_pair {x y : Str} {s : Scope} (hx : storable s x = true) (hy : storable s y = true) (h : ev o s a (up y (.pv v) (up x (.pv u) (under s r))) = some w) : (do
      let r' <- bindT s (.Tuple [.Name x p1, .Name y p2] k p3) (.tup [u, v]) (under s r)
      if <- evIfs o s [] r' then evGens o s (ev o s a) [] r' else some []) = some [w] := by
  have e : bindT s (.Tuple [.Name x p1, .Name y p2] k p3) (.tup [u, v]) (under s r) = some (up y (.pv v) (up x (.pv u) (under s r))) := by
    rw [u_t, t_1, if_pos hx, t_1, if_pos hy]; rfl
  rw [e]; show (ev o s a _).map _ = _; rw [h]; rfl
theorem k_ret (h : ev o sc e r = some u) : Internal.exec o sc (.Return (some e) p) r = some (.ret u) := by
  rw [w_ret, h]; rfl
theorem k_asg (h : assignF o sc ts e r = some r') : Internal.exec o sc (.Assign ts e p) r = some (.next r') := by
  rw [w_asg, h]; rfl
theorem frz_0 (h : L = []) : frz L r = r := h ▸ frz_nil
theorem k_an0 (hf : fresh e = false) (he : esc e = []) (hs : storable sc x = true) (h : ev o sc e r = some u) : assignF o sc [.Name x p] e r = some (up x (.pv u) r) := by
  rw [a_n, h]; refine (if_pos hs).trans ?_; rw [slot_pv hf, frz_0 he]
theorem k_an (hf : fresh e = false) (hs : storable sc x = true) (h : ev o sc e r = some u) : assignF o sc [.Name x p] e r = some (up x (.pv u) (frz (esc e) r)) := by
  rw [a_n, h]; refine (if_pos hs).trans ?_; rw [slot_pv hf]
theorem k_ao0 {l : List PV} (hf : fresh e = true) (he : esc e = []) (hs : storable sc x = true) (h : ev o sc e r = some (.lst l)) : assignF o sc [.Name x p] e r = some (up x (.own l) r) := by
  rw [a_n, h]; refine (if_pos hs).trans ?_; rw [slot_own hf, frz_0 he]
theorem k_ao {l : List PV} (hf : fresh e = true) (hs : storable sc x = true) (h : ev o sc e r = some (.lst l)) : assignF o sc [.Name x p] e r = some (up x (.own l) (frz (esc e) r)) := by
  rw [a_n, h]; refine (if_pos hs).trans ?_; rw [slot_own hf]
theorem k_ann {i : Int} (hs : storable sc x = true) (hs' : storable sc y = true) (h : ev o sc e r = some (.int i)) : assignF o sc [.Name x p, .Name y q] e r = some (up y (.pv (.int i)) (up x (.pv (.int i)) r)) := by
  rw [a_nn, h]; exact if_pos ⟨hs, hs'⟩
theorem k_as {i v : Int} {l : List PV} (hs : storable sc x = true) (h : ev o sc e r = some (.int v)) (h1 : ev o sc a r = some (.int i)) (h2 : r x = some (.own l)) (h3 : 0 <= i /\ i < l.length) (h4 : l.length <= wide) : assignF o sc [.Subscript (.Name x q) a p] e r = some (up x (.own (l.set i.toNat (.int v))) r) := by
  rw [a_s, h]; show (ev o sc a r).bind _ = _; rw [h1]
  show (match PV.int i, r x with | .int k, some (.own l) => if 0 <= k /\ k < l.length /\ storable sc x = true /\ l.length <= wide then some (up x (.own (l.set k.toNat (.int v))) r) else Option.none | _, _ => Option.none) = _
  rw [h2]; exact if_pos ⟨h3.1, h3.2, hs, h4⟩
theorem k_att (h : evs o sc es r = some us) (hl : Nat.ble es.length 100 = true) (h23 : (es.length == 2 || es.length == 3) = true) (hc : es.all (constantsAlone 8) = false) (hn : decide (namesOf ts).Nodup = true) (hb : bindTs sc ts us (frz (esc.escs es) r) = some r') :
    assignF o sc [.Tuple ts k p] (.Tuple es n q) r = some r' := by
  rw [a_tt, h]
  refine (if_neg (Nat.not_lt.mpr (le100 hl))).trans ?_
  refine (if_pos (by simpa using h23)).trans ?_
  exact (if_pos ⟨hc, of_decide_eq_true hn⟩).trans hb
theorem k_att' (h : evs o sc es r = some us) (hl : Nat.ble es.length 100 = true) (h23 : (es.length == 2 || es.length == 3) = false) (hb : bindEach sc ts es us (frz (esc.escs es) r) = some r') :
    assignF o sc [.Tuple ts k p] (.Tuple es n q) r = some r' := by
  rw [a_tt, h]
  refine (if_neg (Nat.not_lt.mpr (le100 hl))).trans ?_
  exact (if_neg (by simpa using h23)).trans hb
theorem k_at (ht : isTup e = false) (h : ev o sc e r = some (.tup us)) (hb : bindTs sc ts us (frz (esc e) r) = some r') : assignF o sc [.Tuple ts k p] e r = some r' := by
  rw [a_t2 ht, h]; exact hb
theorem k_t0 : bindTs sc [] [] r = some r := rfl
theorem k_t1 (hs : storable sc x = true) (h : bindTs sc ts us (up x (.pv u) r) = some r') : bindTs sc (.Name x p :: ts) (u :: us) r = some r' := (if_pos hs).trans h
theorem k_e0 : bindEach sc [] [] [] r = some r := rfl
theorem k_e1 (he : emp e = false) (hs : storable sc x = true) (h : bindEach sc ts es us (up x (.pv u) r) = some r') : bindEach sc (.Name x p :: ts) (e :: es) (u :: us) r = some r' := by
  refine (if_pos hs).trans ?_; rw [if_neg (by rw [he]; exact Bool.false_ne_true)]; exact h
theorem k_e1' (he : emp e = true) (hs : storable sc x = true) (h : bindEach sc ts es us (up x (.own []) r) = some r') : bindEach sc (.Name x p :: ts) (e :: es) (u :: us) r = some r' := by
  refine (if_pos hs).trans ?_; rw [if_pos he]; exact h
theorem k_aug {op : Operator} {i j d : Int} (hs : storable sc x = true) (h : ev o sc (.Name x q) r = some (.int i)) (h1 : ev o sc e r = some (.int j)) (h2 : augF op i j = some d) : Internal.exec o sc (.AugAssign (.Name x q) op e p1) r = some (.next (up x (.pv (.int d)) r)) := by
  have h : look o sc r x = some (.int i) := h
  rw [w_aug, h]; show (ev o sc e r).bind _ = _; rw [h1]; show (augF op i j).bind _ = _; rw [h2]; exact if_pos hs
theorem k_sT {ss ss' : List Stmt} {out : Out} (h1 : ev o sc t r = some u) (h2 : truth u = some true) (h : Internal.execs o sc ss r = some out) : Internal.exec o sc (.If t ss ss' p) r = some out := by
  rw [w_if, h1]; show (truth u).bind _ = _; rw [h2]; exact h
theorem k_sF {ss ss' : List Stmt} {out : Out} (h1 : ev o sc t r = some u) (h2 : truth u = some false) (h : Internal.execs o sc ss' r = some out) : Internal.exec o sc (.If t ss ss' p) r = some out := by
  rw [w_if, h1]; show (truth u).bind _ = _; rw [h2]; exact h
theorem k_app {m : Str} {l : List PV} (hm : (m == "append" && storable sc x && !(esc e).contains x && (p2.endLine == p3.line)) = true) (h : ev o sc e r = some u) (h1 : r x = some (.own l)) (hl : l.length < wide) :
    Internal.exec o sc (.Expr (.Call (.Attribute (.Name x p1) m p2) [e] [] p3) p4) r = some (.next (up x (.own (l ++ [u])) (frz (esc e) r))) := by
  simp only [Bool.and_eq_true, beq_iff_eq, Bool.not_eq_true', List.contains_eq_mem, decide_eq_false_iff_not] at hm
  rw [w_app, h]
  refine (if_pos ⟨hm.1.1.1, hm.1.1.2, hm.1.2, by simpa using hm.2⟩).trans ?_
  rw [h1]; exact if_pos hl
theorem k_x0 : Internal.execs o sc [] r = some (.next r) := rfl
theorem k_x1 {s : Stmt} {ss : List Stmt} {out : Out} (h : Internal.exec o sc s r = some (.next r')) (h1 : Internal.execs o sc ss r' = some out) : Internal.execs o sc (s :: ss) r = some out := (execs_next h).trans h1
theorem k_xr {s : Stmt} {ss : List Stmt} (h : Internal.exec o sc s r = some (.ret u)) : Internal.execs o sc (s :: ss) r = some (.ret u) := execs_ret h
theorem go_n {s : Stmt} {P : Internal.Loc -> Prop} (h : Internal.exec o sc s r = some (.next r')) (k : P r') : ∃ r1, Internal.exec o sc s r = some (.next r1) /\ P r1 := ⟨r', h, k⟩
theorem go_ns {ss : List Stmt} {P : Internal.Loc -> Prop} (h : Internal.execs o sc ss r = some (.next r')) (k : P r') : ∃ r1, Internal.execs o sc ss r = some (.next r1) /\ P r1 := ⟨r', h, k⟩
theorem go_t {d : Bool} (h : ev o sc e r = some u) (k : truth u = some d) : ∃ tv, ev o sc e r = some tv /\ truth tv = some d := ⟨u, h, k⟩
theorem go_tb {d : Bool} (h : ev o sc e r = some u) (k : truth u = some d) : (ev o sc e r).bind truth = some d := by rw [h]; exact k
theorem cc_len (h : bf .len us = some w) : o.call "len" us = some w := h
theorem cc_range (h : bf .range us = some w) : o.call "range" us = some w := h
theorem cc_list (h : bf .list us = some w) : o.call "list" us = some w := h
theorem cc_min (h : bf .min us = some w) : o.call "min" us = some w := h
theorem cc_sum (h : bf .sum us = some w) : o.call "sum" us = some w := h
theorem cc_abs (h : bf .abs us = some w) : o.call "abs" us = some w := h
theorem cc_chr (h : bf .chr us = some w) : o.call "chr" us = some w := h
theorem cc_ord (h : bf .ord us = some w) : o.call "ord" us = some w := h
theorem cc_type (h : bf .type us = some w) : o.call "type" us = some w := h
theorem cc_fn (h : (bname f).isNone = true) (k : o.fn f us = some w) : o.call f us = some w := (call_fn h).trans k
theorem go_o {σ : Type} {I : σ -> Internal.Loc -> Prop} {st : σ} {ss : List Stmt} (h : Internal.execs o sc ss r = some (.next r')) (k : I st r') : ∃ out, Internal.execs o sc ss r = some out /\ Good I (.inl st) out := ⟨.next r', h, k⟩
theorem of_frz {P : Internal.Loc -> Prop} (h : L = []) (k : P r) : P (frz L r) := by rw [frz_0 h]; exact k
@[elab_as_elim] theorem cases4 {P : Nat -> Prop} {k : Nat} (hk : k < 4) (h0 : P 0) (h1 : P 1) (h2 : P 2) (h3 : P 3) : P k := by
  rcases k with _ | _ | _ | _ | k
  . exact h0
  . exact h1
  . exact h2
  . exact h3
  . exact absurd hk (Nat.not_lt.mpr (Nat.le_add_left 4 k))
@[elab_as_elim] theorem cases8 {P : Nat -> Prop} {k : Nat} (hk : k < 8) (h0 : P 0) (h1 : P 1) (h2 : P 2) (h3 : P 3) (h4 : P 4) (h5 : P 5) (h6 : P 6) (h7 : P 7) : P k := by
  rcases k with _ | _ | _ | _ | k
  . exact h0
  . exact h1
  . exact h2
  . exact h3
  . exact cases4 (P := fun k => P (k + 4)) (Nat.lt_of_add_lt_add_right (n := 4) hk) h4 h5 h6 h7
theorem up_smp : (up x (.pv v) r x).map Slot.val = some v := by rw [up_same]; rfl
theorem up_smo {l : List PV} : (up x (.own l) r x).map Slot.val = some (.lst l) := by rw [up_same]; rfl
theorem up_same_r {z : Option Slot} (h : some sl = z) : up x sl r x = z := up_same.trans h
theorem up_smp_r {z : Option PV} (h : some v = z) : (up x (.pv v) r x).map Slot.val = z := up_smp.trans h
theorem up_smo_r {l : List PV} {z : Option PV} (h : some (.lst l) = z) : (up x (.own l) r x).map Slot.val = z := up_smo.trans h
theorem l_ua {xs : List Str} {ps : List PV} (h : upAll xs ps (up x (.pv u) r) y = some sl) : upAll (x :: xs) (u :: ps) r y = some sl := h
theorem l_u0 (h : r y = some sl) : upAll [] [] r y = some sl := h
theorem l_up (h : (y == x) = false) (e : r y = some sl) : up x sl r y = some sl := (up_ne h).trans e
theorem l_ne {s : Slot} (h : (y == x) = false) (e : r y = some sl) : up x s r y = some sl := (up_ne h).trans e
theorem l_nm {s : Slot} (h : (y == x) = false) (e : (r y).map Slot.val = some v) : (up x s r y).map Slot.val = some v := (congrArg (Option.map Slot.val) (up_ne h)).trans e
theorem l_fr (h : L.contains y = false) (e : r y = some sl) : frz L r y = some sl := (frz_out h).trans e
theorem l_frm (e : (r y).map Slot.val = some v) : (frz L r y).map Slot.val = some v := by
  unfold frz
  split
  . rw [Option.map_map]; exact e
  . exact e
theorem l_fp (e : r y = some (.pv v)) : frz L r y = some (.pv v) := by
  unfold frz
  split
  . rw [e]; rfl
  . exact e
theorem l_un {s : Scope} (h : kd s y = some .free) (e : r y = some sl) : under s r y = some sl := (under_f h).trans e
theorem l_unm {s : Scope} (h : kd s y = some .free) (e : (r y).map Slot.val = some v) : (under s r y).map Slot.val = some v := (congrArg (Option.map Slot.val) (under_f h)).trans e
theorem l_val (e : r y = some sl) : (r y).map Slot.val = some sl.val := congrArg (Option.map Slot.val) e
end
end

open PySem
protected def Steps.all (s : String) (f : Char -> Lean.Syntax) : Array (Lean.TSyntax `tactic) :=
  let q := fun (ts : Array Lean.Syntax) => Lean.mkNode ``Lean.Parser.Tactic.tacticSeq #[Lean.mkNode ``Lean.Parser.Tactic.tacticSeq1Indented #[Lean.mkNullNode (Lean.mkSepArray ts (Lean.mkAtom ";"))]]
  ((s.splitOn "|").map fun t =>
    let a := Lean.mkNode ``Lean.Parser.Tactic.withReducible #[Lean.mkAtom "with_reducible", q #[Lean.mkNode ``Lean.Parser.Tactic.apply #[Lean.mkAtom "apply", Lean.mkIdent ((t.splitOn " ").headD "").toName]]]
    if t.contains ' ' == false then Lean.TSyntax.mk (Lean.mkNode ``Lean.Parser.Tactic.withReducible #[Lean.mkAtom "with_reducible", q #[Lean.mkNode ``Lean.Parser.Tactic.exact #[Lean.mkAtom "exact", Lean.mkIdent t.toName]]]) else
    if t.endsWith " A" then Lean.TSyntax.mk (Lean.mkNode ``Lean.Parser.Tactic.withReducibleAndInstances #[Lean.mkAtom "with_reducible_and_instances", q #[Lean.mkNode ``Lean.Parser.Tactic.apply #[Lean.mkAtom "apply", Lean.mkIdent ((t.splitOn " ").headD "").toName], f 'A']]) else
    Lean.TSyntax.mk (Lean.mkNode ``Lean.Parser.Tactic.paren #[Lean.mkAtom "(", q (List.cons (α := Lean.Syntax) a.raw (((t.splitOn " ").getD 1 "z").toList.map f)).toArray, Lean.mkAtom ")"])).toArray
local macro_rules
  | `(tactic| fail "x") => do
    let x <- `(tactic| fail "x")
    let d <- `(tactic| decide)
    let r <- `(tactic| exact rfl)
    let a <- `(tactic| with_reducible_and_instances assumption)
    let g <- `(tactic| first | $a:tactic | $r:tactic)
    let z <- `(tactic| done)
    let ms := Steps.all "m_lower|m_upper|m_join|m_count" fun y_ => z
    let m <- `(tactic| first $[| $ms:tactic]*)
    let ts := Steps.all "up_same|l_ne dx|l_nm dx|l_ua x|l_u0 x|up_smp|up_smo|l_fp x|l_fr dx|l_frm x|l_un dx|l_unm dx|k_c r|k_np dx|k_no dx|k_nm dx|k_ng dg|k_bin xxx|k_sub rxxx|k_cmp xxx|k_call dxx|k_meth xxdmx|k_list rx|k_tup rx|k_neg x|k_not xx|k_slc xxxxx|k_ifT xxx|k_ifF xxx|k_bool x|k_b1 x|k_andT xxx|k_andF xx|k_orT xx|k_orF xxx|k_cmpT xxxxx|k_cmpF xxx|k_s0|k_s1 rxx|k_o0|k_o1 x|k_ret x|k_asg x|k_an0 rrdx|k_an rdx|k_ao0 rrdx|k_ao rdx|k_ann ddx|k_as dxxxxx|k_att xrrrdx|k_att' xrrx|k_at rxx|k_t0|k_t1 dx|k_e0|k_e1 rdx|k_e1' rdx|k_aug dxxx|k_sT xxx|k_sF xxx|k_app dxxx|k_x0|k_x1 xx|k_xr x|cc_len x|cc_range x|cc_list x|cc_min x|cc_sum x|cc_abs x|cc_chr x|cc_ord x|cc_type x|cc_fn dx|tr_h A|xk_le A|xk_lt A|xk_gt A|tr_i A|tr_b|y_add_ii|y_sub_ii|x_eq_ii|x_eq_ss|x_lt|x_le|x_gt|x_ne_ii|x_ne_ss|x_in_ss|x_nin_ss|x_is_ff|x_is_tf|x_is_tt|x_is_ft|x_is_bb|x_isn_bb|x_isn_sn|x_isn_nn|x_isn_in|x_is_in|x_isn_tt|tr_nt|tr_nf|truth_int|mn_ii|bf_abs|ag_add|ag_sub|y_mod d|y_fdiv d|y_mul d|up_same_r r|up_smp_r r|up_smo_r r" fun k => if k == 'x' then x else if k == 'd' then d else if k == 'r' then r else if k == 'g' then g else if k == 'A' then a else if k == 'z' then z else m
    `(tactic| first | $a:tactic $[| $ts:tactic]*)
  | `(tactic| specialize $h) => do
    let x <- `(tactic| specialize $h)
    let d <- `(tactic| decide)
    let z <- `(tactic| done)
    let ts := Steps.all "up_same|l_ne dx|l_nm dx|l_fp x|l_fr dx|l_frm x|l_un dx|l_unm dx" fun k => if k == 'x' then x else if k == 'z' then z else d
    `(tactic| first | exact $h | exact l_val $h $[| $ts:tactic]*)
section
open PySem

theorem subst_eq (a b : Str) (ha : a.length <= 1000) (hb : b.length <= 1000) : callF o1 ["ch_a", "ch_b"] (bd 4) (scp 4) [.str a, .str b] = some (.int (if a == b then 0 else if Txt.lower a == Txt.lower b then 1 else 2)) := by
  refine callF_of rfl ?_
  (generalize hbd : bd _ = Bdy; (conv at hbd => (lhs; whnf)); subst hbd)
  have g1 : o1.gl "_CASE_COST" = some (.int 1) := by rfl
  have g2 : o1.gl "_MOVE_COST" = some (.int 2) := by rfl
  have l1 : bmeth .lower (.str a) [] = some (.str (Txt.lower a)) := if_pos ha
  have l2 : bmeth .lower (.str b) [] = some (.str (Txt.lower b)) := if_pos hb
  cases h1 : (a == b) with
  | true => show _ = some (Out.ret (.int 0)); fail "x"
  | false =>
    cases h2 : (Txt.lower a == Txt.lower b) with
    | true => show _ = some (Out.ret (.int 1)); fail "x"
    | false => show _ = some (Out.ret (.int 2)); fail "x"

theorem strIn_one (c : Nat) (T : Str) : strIn ⟨#[c]⟩ T = decide (c ∈ T.cps.toList) := StrLaws.found_one T c

theorem strip_eq (T : Str) (h : 34 ∉ T.cps.toList) : callF o1 ["addr"] (bd 8) (scp 8) [.str T] = some (.str T) := by
  refine callF_of rfl ?_
  (generalize hbd : bd _ = Bdy; (conv at hbd => (lhs; whnf)); subst hbd)
  have hn : (!strIn (Str.ofString "\"") T) = true := by
    have e : (Str.ofString "\"") = ⟨#[34]⟩ := by rfl
    rw [e, strIn_one]; simp [h]
  fail "x"


noncomputable def eucF : Int × Int -> Option (Sum (Int × Int) PV) := fun s => if s.2 = 0 then Option.none else some (.inl (s.2, s.1.fmod s.2))
noncomputable def euc (c m : Int) : Option Int := match whileO (fun s : Int × Int => !(s.2 == 0)) eucF 100 (c, m) with
  | some (.inl s) => some s.1
  | _ => Option.none
noncomputable def commonStep (c m : Int) : Option (Sum Int PV) := (euc c m).map .inl
noncomputable def commonF (l : List Int) : Option Int := match foldO commonStep 0 l with
  | some (.inl c) => some (if c < 0 then -c else c)
  | _ => Option.none

noncomputable def s22 : Stmt := nth (bd 22) 1
noncomputable def w22 : Stmt := nth (bodyOf s22) 0
noncomputable def I22 (s : Int × Int) (r : Internal.Loc) : Prop := r "common" = some (.pv (.int s.1)) /\ r "more" = some (.pv (.int s.2))

set_option tactic.hygienic true in
theorem while22 (o : Orc) (ho : 100 <= o.fuel) (c m d : Int) (r : Internal.Loc) (h : euc c m = some d) (hI : I22 (c, m) r) :
    ∃ r', Internal.exec o (scp 22) w22 r = some (.next r') /\ r' "common" = some (.pv (.int d)) := by
  unfold euc at h
  split at h
  . rename_i s hs
    cases h
    rw [exec_while' (p := Stmt.pos w22) (by rfl)]
    obtain ⟨out, h1, h2⟩ := while_fold (I := I22) (T := fun r => (ev o (scp 22) (testOf w22) r).bind truth) (F := fun r => Internal.execs o (scp 22) (bodyOf w22) r) (t := fun s => !(s.2 == 0)) (f := eucF)
      (fun s r hI => by
        (generalize hsy : (testOf w22) = Sy; (conv at hsy => (lhs; whnf)); subst hsy)
        have z := hI.2
        apply go_tb
        . fail "x"
        . rfl)
      (fun s r x hI ht hs => by
        (generalize hsy : (bodyOf w22) = Sy; (conv at hsy => (lhs; whnf)); subst hsy)
        unfold eucF at hs
        split at hs
        . cases hs
        . rename_i h0
          cases hs
          have z1 := hI.1
          have z2 := hI.2
          have z3 := @y_mod s.1 s.2 h0
          apply go_o
          . fail "x"
          . exact ⟨by fail "x", by fail "x"⟩) 100 o.fuel (c, m) r _ ho hI hs
    cases out with
    | next r' => exact ⟨r', h1, h2.1⟩
    | ret p => exact h2.elim
  . cases h

set_option tactic.hygienic true in
theorem common_eq (o : Orc) (ho : 100 <= o.fuel) (l : List Int) (c : Int) (h : commonF l = some c) : callF o ["numbers"] (bd 22) (scp 22) [.lst (l.map .int)] = some (.int c) := by
  unfold commonF at h
  split at h
  . rename_i d hd
    cases h
    refine callF_of rfl ?_
    have e : bd 22 = [nth (bd 22) 0, s22, nth (bd 22) 2] := by rfl
    rw [e]
    have h0 : Internal.exec o (scp 22) (nth (bd 22) 0) (upAll ["numbers"] [.lst (l.map .int)] fun y_ => Option.none) = some (.next (up "common" (.pv (.int 0)) (upAll ["numbers"] [.lst (l.map .int)] fun y_ => Option.none))) := by
      (generalize hsy : (nth (bd 22) 0) = Sy; (conv at hsy => (lhs; whnf)); subst hsy)
      fail "x"
    rw [execs_next h0]
    obtain ⟨out, h1, h2⟩ := for_fold (I := fun c r => r "common" = some (.pv (.int c))) (enc := PV.int) (F := fun p r => do let r' <- bindT (scp 22) (targetOf s22) p r; Internal.execs o (scp 22) (bodyOf s22) r') (f := commonStep)
      (fun c m r x hI hs => by
        unfold commonStep at hs
        obtain ⟨d, hd, rfl⟩ := Option.map_eq_some_iff.mp hs
        have hb : bindT (scp 22) (targetOf s22) (.int m) r = some (up "more" (.pv (.int m)) r) := by rfl
        obtain ⟨r1, h1, h2⟩ := while22 o ho c m d (up "more" (.pv (.int m)) r) hd ⟨by rw [up_ne (by decide)]; exact hI, up_same⟩
        have e : bodyOf s22 = [w22] := by rfl
        refine ⟨.next r1, ?_, h2⟩
        simp only [hb, bind_s, e]
        exact execs_one h1) l 0 (frz (esc (iterE s22)) (up "common" (.pv (.int 0)) (upAll ["numbers"] [.lst (l.map .int)] fun y_ => Option.none))) _ (by
          (generalize hsy : (iterE s22) = Sy; (conv at hsy => (lhs; whnf)); subst hsy)
          fail "x") hd
    rw [<- exec_for' (p := Stmt.pos s22) (by rfl) (x := .lst (l.map .int)) (by
      (generalize hsy : (iterE s22) = Sy; (conv at hsy => (lhs; whnf)); subst hsy)
      fail "x") rfl] at h1
    cases out with
    | ret p => exact h2.elim
    | next r' =>
      rw [execs_next h1]
      refine execs_ret ?_
      have hI : r' "common" = some (.pv (.int d)) := h2
      (generalize hsy : (nth (bd 22) 2) = Sy; (conv at hsy => (lhs; whnf)); subst hsy)
      fail "x"
  . cases h
end

section
open PySem

noncomputable def testOf' : Stmt -> Expr
  | .Return (some e) _ => e
  | _ => .Constant .none 0 default
noncomputable def setsL (n : Nat) : List (List Int) := (List.range (2 ^ n)).map fun (m : Nat) => ((List.range n).filter fun k => (((m : Int).fdiv (2 ^ k)).fmod 2 == 1)).map fun (k : Nat) => (k : Int)

theorem to10 {P : Nat -> Prop} (h : ∀ n, n < 11 -> P n) {n : Nat} (hn : n <= 10) : P n := h n (Nat.lt_succ_of_le hn)
theorem tiny_pow {n : Nat} (hn : n <= 10) : tiny ((2 : Int) ^ n) = true := to10 (P := fun n => tiny ((2 : Int) ^ n) = true) (by decide) hn
theorem tiny_le {n : Nat} (hn : n <= 10) : tiny (n : Int) = true := to10 (P := fun n => tiny (n : Int) = true) (by decide) hn
theorem two_pow {n : Nat} (hn : n <= 10) : bin .Pow (.int 2) (.int n) = some (.int (2 ^ n)) :=
  y_pow (to10 (P := fun n => (small 2 && decide (0 <= (n : Int)) && decide ((n : Int) < 1000)) = true) (by decide) hn)
theorem pow_le {n : Nat} (hn : n <= 10) : 2 ^ n <= 1024 := to10 (P := fun n => 2 ^ n <= 1024) (by decide) hn
theorem div_pow {n : Nat} (hn : n <= 10) (m : Int) : bin .FloorDiv (.int m) (.int (2 ^ n)) = some (.int (m.fdiv (2 ^ n))) :=
  y_fdiv (to10 (P := fun n => (decide ((2 : Int) ^ n ≠ 0) && small ((2 : Int) ^ n)) = true) (by decide) hn)

theorem sets_eq (o : Orc) (n : Nat) (hn : n <= 10) : callF o ["size"] (bd 23) (scp 23) [.int n] = some (.lst ((setsL n).map fun s => .lst (s.map .int))) := by
  refine callF_of rfl ?_
  (generalize hbd : bd _ = Bdy; (conv at hbd => (lhs; whnf)); subst hbd)
  refine execs_ret ?_
  have t1 := tiny_pow hn
  have t2 := tiny_le hn
  have p1 := two_pow hn
  have p2 := pow_le hn
  have t3 : bf .range [.int (2 ^ n)] = some (.rng 0 (2 ^ n) 1) := bf_range1 t1
  have t4 : bf .range [.int n] = some (.rng 0 n 1) := bf_range1 t2
  with_reducible apply k_ret
  have e : PV.lst ((setsL n).map fun s => .lst (s.map .int)) = PV.lst ((List.range (2 ^ n)).map fun (m : Nat) => PV.lst (((List.range n).filter fun k => (((m : Int).fdiv (2 ^ k)).fmod 2 == 1)).map fun (k : Nat) => PV.int (k : Int))) := by
    simp only [setsL, List.map_map, Function.comp_def]
  rw [e]
  refine k_comp (u := .rng 0 (2 ^ n) 1) ?_ (iter_r.trans (congrArg some (rng_pow n))) (by decide) (turns_one (g := fun (m : Nat) => PV.lst (((List.range n).filter fun k => (((m : Int).fdiv (2 ^ k)).fmod 2 == 1)).map fun (k : Nat) => PV.int (k : Int))) _ fun m y_ => k_one (by decide) ?_) (by rw [List.length_map, List.length_range]; exact Nat.le_trans p2 (by decide))
  . fail "x"
  . refine k_comp (u := .rng 0 n 1) ?_ (iter_r.trans (congrArg some (rng_zero n))) (by decide) (turns_filter (q := fun k => (((m : Int).fdiv (2 ^ k)).fmod 2 == 1)) (g := fun (k : Nat) => PV.int (k : Int)) _ fun k hk => k_if1 (v := .bool (((m : Int).fdiv (2 ^ k)).fmod 2 == 1)) (by decide) ?_ tr_b ?_) (by
      have := List.length_filter_le (fun k => (((m : Int).fdiv (2 ^ k)).fmod 2 == 1)) (List.range n)
      rw [List.length_range] at this
      rw [List.length_map]
      exact Nat.le_trans this (Nat.le_trans hn (by decide)))
    . fail "x"
    . have hk' : k <= 10 := Nat.le_trans (Nat.le_of_lt (List.mem_range.mp hk)) hn
      have q1 := two_pow hk'
      have q2 := div_pow hk' m
      fail "x"
    . fail "x"
end

section
open PySem PyProof.Rows

section
variable {M : Model} {A : Around} {R : GenEnd} {Y : Protocol} {n : Nat} {s₀ : Shared} {c : Code} {fs : List Frame} {s : Shared} {env : Env}
  {K : Flow -> Sem Fin} {H : Value -> Sem Fin} {gd : Bool -> Bool} {lv : List Value -> List Value}

theorem seg_If {test : Expr} {a b : List Stmt} {pos : Pos} (h : wpAny M (A.over c fs) (isTrue test env (eval test env)) (fun t s' => if t = true then Seg M A R Y n s₀ c ((PySem.execs a env).wrap K H gd lv) fs s' else Seg M A R Y n s₀ c ((PySem.execs b env).wrap K H gd lv) fs s')
    (fun x s' => Seg M A R Y n s₀ c (H x) fs s') s) : Seg M A R Y n s₀ c ((PySem.exec (.If test a b pos) env).wrap K H gd lv) fs s := by
  rw [exec_If]
  refine seg_bind_wrap (wpAny_standAt ?_)
  refine seg_bind_wrap (wpAny_mono h (fun t s' q => ?_) fun y_ y_ e => e)
  cases t with
  | true => simpa -iota using q
  | false => simpa -iota using q

theorem seg_exec {st : Stmt} (h : wpAny M (A.over c fs) (PySem.exec st env) (fun f s' => Seg M A R Y n s₀ c (K f) fs s') (fun x s' => Seg M A R Y n s₀ c (H x) fs s') s) :
    Seg M A R Y n s₀ c ((PySem.exec st env).wrap K H gd lv) fs s := seg_wrap h

theorem seg_For {target iter : Expr} {body : List Stmt} {pos : Pos} (hs : ∀ x, foldedSetIterable iter env x = pure x)
    (h : wpAny M (A.over c fs) (eval iter env) (fun x s₁ => wpAny M (A.over c fs) (pyIter x) (fun it s₂ => ∀ p,
      Seg M A R Y n s₀ (.forLoop target it body [] env) (M.den (.forLoop target it body [] env))
        (.ret (fun r => ((match r with | .ok f => (.pure f : Sem Flow) | .error e => .raise e).onRaise fun (x : Value) => do
          if (<- field x 1) == Value.none then unsupported "frame.own-activation:exception-without-traceback"
          setFlight x env.frame).wrap K H gd lv) none (gd false) (lv []) c p [] :: fs) s₂) (fun x s' => Seg M A R Y n s₀ c (H x) fs s') s₁) (fun x s' => Seg M A R Y n s₀ c (H x) fs s') s) :
    Seg M A R Y n s₀ c ((PySem.exec (.For target iter body [] pos) env).wrap K H gd lv) fs s := by
  rw [exec_For]
  refine seg_bind_wrap (wpAny_standAt ?_)
  refine seg_bind_wrap (wpAny_mono h (fun x s₁ q => ?_) fun y_ y_ e => e)
  refine seg_bind_wrap (wpAny_of_eq (hs x) ?_)
  refine seg_bind_wrap (wpAny_standAt ?_)
  refine seg_bind_wrap (wpAny_holding (wpAny_mono q (fun it s₂ q2 => ?_) fun y_ y_ e => e))
  exact seg_call q2
end

noncomputable def KpG (h0 : Heap) (L : Addr) (s₀ s : Shared) : Prop := ∃ h' tk, s = { s₀ with heap := h', toks := tk } /\ ∀ b o, b ≠ L -> (∃ o', h0.get? b = some o') -> s₀.heap.get? b = some o -> h'.get? b = some o
noncomputable def OutG (L0 : Addr) (s s'' : Shared) : Prop := (∀ b o, b ≠ L0 -> s.heap.get? b = some o -> s''.heap.get? b = some o) /\ ∃ o, s''.heap.get? L0 = some o
noncomputable def YP (h0 : Heap) (L0 L : Addr) (T : Str) : Protocol := fun m s₀ v s kap =>
  (∃ i c a tk u, i + m + 1 = T.cps.size /\ T.cps[i]? = some c /\ v = .ref a /\ h0.get? a = Option.none /\ s.heap.get? a = some { cls := .type "tuple", data := .seq #[.int (i : Nat) tk, .str ⟨#[c]⟩ u] }) /\
  KpG h0 L s₀ s /\ ∀ s'', OutG L0 s s'' -> kap (.send .none) s''
noncomputable def RP (h0 : Heap) (L : Addr) : GenEnd := fun n s₀ r s₁ => r = .ok (.ret .none) /\ (n = 0 /\ KpG h0 L s₀ s₁)

theorem KpG.refl {h0 : Heap} {L : Addr} {s : Shared} : KpG h0 L s s := ⟨s.heap, s.toks, rfl, fun y_ y_ y_ y_ e => e⟩
theorem KpG.step {h0 : Heap} {L : Addr} {s₀ s : Shared} (x : KpG h0 L s₀ s) {h' : Heap} {tk : Nat} (hk : ∀ b o, b ≠ L -> (∃ o', h0.get? b = some o') -> s.heap.get? b = some o -> h'.get? b = some o) : KpG h0 L s₀ { s with heap := h', toks := tk } := by
  refine cps fun U J => ?_
  obtain ⟨h₁, tk₁, rfl, hk₁⟩ := x
  refine J ?_; clear J U
  exact ⟨h', tk, rfl, fun b o hL hl e => hk b o hL hl (hk₁ b o hL hl e)⟩

structure GS (h0 : Heap) (L0 L : Addr) (T : Str) (t : Tok) (e it : Addr) (i : Nat) (h : Heap) : Prop where
  ns : ∃ m, h.Ns L m /\ m "escape" = some (.bool false)
  en : ∃ old, IsEnum h e it i old
  si : h.IsStrIter it (strIterType T) T t i
  ei : e ≠ it
  e0 : h0.get? e = Option.none
  i0 : h0.get? it = Option.none
  l0 : L ≠ L0
  ll : ∃ o, h0.get? L0 = some o
  lo : ∃ o, h0.get? L = some o
  all : ∀ b o, h0.get? b = some o -> ∃ o', h.get? b = some o'

theorem draws_str {prog : Program} {w : World} {A : Around} (hh : A.handled = none) (it : Addr) (T : Str) (t : Tok) : Draws prog w A it [it] T.cps.size (SignAt T) fun i h => h.IsStrIter it (strIterType T) T t i := by
  cases ha : T.cps.all (· < 128) with
  | true =>
    have e : strIterType T = "str_ascii_iterator" := by simp -iota [strIterType, ha]
    rw [e]; exact Draws.strAscii hh it T t
  | false =>
    have e : strIterType T = "str_iterator" := by simp -iota [strIterType, ha]
    rw [e]; exact Draws.strWide hh it T t

structure GShape (te tc : Expr) (ty : List Expr) (env : Env) : Prop where
  e1 : ∃ p, te = .Name "escape" p
  e2 : ∃ p1 p2 p3 k, tc = .Compare (.Name "ch" p1) [.Eq] [.Constant (.str "\\") k p2] p3
  e3 : ∃ p1 p2, ty = [.Name "pos" p1, .Name "ch" p2]
  kind : env.scope.kind = .function
  kE : env.kindOf "escape" = some .local
  kP : env.kindOf "pos" = some .local
  kC : env.kindOf "ch" = some .local
  co : env.scope.isCoroutine = false
  int : interactive env = false

section
variable {prog : Program} {w : World} {A : Around} {h0 : Heap} {L0 : Addr} {T : Str} {t : Tok} {e it : Addr} {fs : List Frame} {env : Env} {te tc : Expr} {ty : List Expr}

theorem gen_loop (hA : A.handled = Option.none) (Sh : GShape te tc ty env) (hfs : splitAtGen fs = Option.none) (hfg : fs.any Frame.guarded = false)
    {tp tp2 ip yp1 yp2 yp3 p1 p2 : Pos} {kt kt2 : Nat} {b1 b2 : List Stmt}
    (hmk : ∀ c, (A.over c fs).handled = Option.none) (hT : ∀ (i c : Nat), T.cps[i]? = some c -> c ≠ 92)
    (hend : ∀ (c : Code) (s₀ s : Shared), (∃ m, s.heap.Ns env.locals m /\ m "escape" = some (.bool false)) -> KpG h0 env.locals s₀ s -> Seg (model prog w) A (RP h0 env.locals) (YP h0 L0 env.locals T) 0 s₀ c (leafOf (.ok .next)) fs s) :
    ∀ (k i : Nat) (s₀ s : Shared), T.cps.size - i = k -> i <= T.cps.size -> GS h0 L0 env.locals T t e it i s.heap -> KpG h0 env.locals s₀ s ->
      Seg (model prog w) A (RP h0 env.locals) (YP h0 L0 env.locals T) (T.cps.size - i) s₀
        (.forLoop (.Tuple [.Name "pos" tp, .Name "ch" tp2] kt ip) (.ref e) [.If te b1 [.If tc b2 [.Expr (.Yield (some (.Tuple ty kt2 yp1)) yp2) yp3] p1] p2] [] env)
        ((model prog w).den (.forLoop (.Tuple [.Name "pos" tp, .Name "ch" tp2] kt ip) (.ref e) [.If te b1 [.If tc b2 [.Expr (.Yield (some (.Tuple ty kt2 yp1)) yp2) yp3] p1] p2] [] env)) fs s := by
  refine cps fun U J => ?_
  obtain ⟨q1, rfl⟩ := Sh.e1
  obtain ⟨q2, q3, q4, kk, rfl⟩ := Sh.e2
  obtain ⟨q5, q6, rfl⟩ := Sh.e3
  refine J ?_; clear J U
  intro k
  induction k with
  | zero =>
    intro i s₀ s hk hi G Kp
    have hin := n_end hk hi
    cases hin.symm
    rw [Nat.sub_self]
    generalize hc : Code.forLoop (.Tuple [.Name "pos" tp, .Name "ch" tp2] kt ip) (.ref e) [.If (.Name "escape" q1) b1 [.If (.Compare (.Name "ch" q2) [.Eq] [.Constant (.str "\\") kk q3] q4) b2 [.Expr (.Yield (some (.Tuple [.Name "pos" q5, .Name "ch" q6] kt2 yp1)) yp2) yp3] p1] p2] [] env = code
    have hden : (model prog w).den code = (forTurn (.Tuple [.Name "pos" tp, .Name "ch" tp2] kt ip) (.ref e) [.If (.Name "escape" q1) b1 [.If (.Compare (.Name "ch" q2) [.Eq] [.Constant (.str "\\") kk q3] q4) b2 [.Expr (.Yield (some (.Tuple [.Name "pos" q5, .Name "ch" q6] kt2 yp1)) yp2) yp3] p1] p2] [] env).onRaise (fun x => do noteFrame x env; theTreesLotGoes x) := by rw [<- hc]; rfl
    rw [hden, Sem.onRaise_eq_wrap]
    unfold forTurn
    have W := WalksT.enumerateD (prog := prog) (w := w) (draws_str (A := (A.over code fs).in1) (hmk code) it T t) e G.ei (by simpa -iota using G.ei) (by simp -iota)
    have old : ∀ b o, h0.get? b = some o -> b ∉ ([e, it] : List Addr) := fun b o q r => by
      rcases List.mem_cons.mp r with r | r
      . rw [r, G.e0] at q; cases q
      . rw [List.mem_singleton.mp r, G.i0] at q; cases q
    have neL : env.locals ∉ ([e, it] : List Addr) := let ⟨o, ho⟩ := G.lo; old _ o ho
    refine seg_bind_wrap (wpAny_standAt ?_)
    refine seg_bind_wrap (wpAny_onRaise (W.done s _ _ ⟨G.en, G.si⟩ fun h' tk' k' => ?_))
    refine seg_again (by rfl) ?_
    show Seg _ _ _ _ 0 s₀ _ (leafOf (.ok .next)) fs _
    refine hend _ s₀ _ ?_ (Kp.step fun b o n l q => k' b o (old b _ l.choose_spec) q)
    obtain ⟨m, hm, hme⟩ := G.ns
    exact ⟨m, hm.at fun o q => k' _ _ neL q, hme⟩
  | succ k ih =>
    intro i s₀ s hk hi G Kp
    have hlt := n_lt hk
    rw [hk]
    generalize hc : Code.forLoop (.Tuple [.Name "pos" tp, .Name "ch" tp2] kt ip) (.ref e) [.If (.Name "escape" q1) b1 [.If (.Compare (.Name "ch" q2) [.Eq] [.Constant (.str "\\") kk q3] q4) b2 [.Expr (.Yield (some (.Tuple [.Name "pos" q5, .Name "ch" q6] kt2 yp1)) yp2) yp3] p1] p2] [] env = code
    have hden : (model prog w).den code = (forTurn (.Tuple [.Name "pos" tp, .Name "ch" tp2] kt ip) (.ref e) [.If (.Name "escape" q1) b1 [.If (.Compare (.Name "ch" q2) [.Eq] [.Constant (.str "\\") kk q3] q4) b2 [.Expr (.Yield (some (.Tuple [.Name "pos" q5, .Name "ch" q6] kt2 yp1)) yp2) yp3] p1] p2] [] env).onRaise (fun x => do noteFrame x env; theTreesLotGoes x) := by rw [<- hc]; rfl
    rw [hden, Sem.onRaise_eq_wrap]
    unfold forTurn
    have W := WalksT.enumerateD (prog := prog) (w := w) (draws_str (A := (A.over code fs).in1) (hmk code) it T t) e G.ei (by simpa -iota using G.ei) (by simp -iota)
    obtain ⟨m, hns, hme⟩ := G.ns
    have neL : ∀ b, h0.get? b = Option.none -> b ≠ env.locals := fun b q r => by obtain ⟨o, ho⟩ := G.lo; rw [r, ho] at q; cases q
    have neL0 : ∀ b, h0.get? b = Option.none -> b ≠ L0 := fun b q r => by obtain ⟨o, ho⟩ := G.ll; rw [r, ho] at q; cases q
    refine seg_bind_wrap (wpAny_standAt ?_)
    refine seg_bind_wrap (wpAny_onRaise (W.item i s _ _ hlt ⟨G.en, G.si⟩ fun Ta vals h₁ tk₁ hP hTa hTt hMid k₁ => ?_))
    dsimp only
    refine seg_bind_wrap (W.go _ _ _ i Ta _ _ _ hMid fun h₂ hst₂ k₂ => ?_)
    refine cps fun U J => ?_
    obtain ⟨t1, x, ⟨cc, tx, hcc, rfl⟩, rfl⟩ := hP
    refine J ?_; clear J U
    have hTw := W.apart i Ta h₁ hMid
    have hT2 : h₂.IsTuple Ta #[.int (i : Nat) t1, .str ⟨#[cc]⟩ tx] := let ⟨o, ho, r⟩ := hTt; ⟨o, k₂ _ _ hTw ho, r⟩
    have nw : ∀ b, b ≠ e -> b ≠ it -> b ∉ ([e, it] : List Addr) := fun b x y => by simp -iota [x, y]
    have k02 : ∀ b o, b ≠ e -> b ≠ it -> s.heap.get? b = some o -> h₂.get? b = some o := fun b o x y q => k₂ b o (nw b x y) (k₁ b o (nw b x y) q)
    refine seg_bind_wrap (wpAny_assign_Tuple (hmk code) hT2 rfl rfl fun h₃ hx₃ => ?_)
    show wpAny _ _ (do holding [Value.str ⟨#[cc]⟩ tx] (assign (.Name "pos" tp) env (.int (i : Nat) t1)); do holding [] (assign (.Name "ch" tp2) env (.str ⟨#[cc]⟩ tx)); pure ()) _ _ _
    replace hx₃ : Heap.ExtBut h₂.objs.size h₂ h₃ := hx₃
    have k23 : ∀ b o, h₂.get? b = some o -> h₃.get? b = some o := fun b o q => hx₃ b o (Nat.ne_of_lt (Heap.lt_size q)) q
    have hns₃ : h₃.Ns env.locals m := hns.at fun o q => k23 _ _ (k02 _ _ (Ne.symm (neL e G.e0)) (Ne.symm (neL it G.i0)) q)
    refine wpAny_bind (wpAny_holding (wpAny_assign_Name (wpAny_storeName_local Sh.kP hns₃ (fun h₄ hns₄ hs₄ => ?_) (by rw [Sh.kind]; rfl))))
    refine wpAny_bind (wpAny_holding (wpAny_assign_Name (wpAny_storeName_local Sh.kC hns₄ (fun h₅ hns₅ hs₅ => wpAny_pure ?_) (by rw [Sh.kind]; rfl))))
    replace hs₄ : Heap.SameBut env.locals h₃ h₄ := hs₄
    replace hs₅ : Heap.SameBut env.locals h₄ h₅ := hs₅
    have k35 : ∀ b o, b ≠ env.locals -> h₃.get? b = some o -> h₅.get? b = some o := fun b o n q => hs₅.extBut b o n (hs₄.extBut b o n q)
    have k05 : ∀ b o, b ≠ env.locals -> b ≠ e -> b ≠ it -> s.heap.get? b = some o -> h₅.get? b = some o := fun b o n x y q => k35 b o n (k23 b o (k02 b o x y q))
    rw [Sem.bind_eq_wrap', Sem.wrap_wrap]
    refine seg_execs_cons (seg_If ?_)
    refine wpAny_isTrue_value (wpAny_Name (wpAny_loadName_local Sh.kind Sh.kE hns₅ (v := .bool false) (by rw [if_neg (by decide), if_neg (by decide)]; exact hme) (wpAny_truthy_bool ?_)) rfl) rfl
    simp -iota only [Bool.false_eq_true, if_false]
    refine seg_execs_cons (seg_If ?_)
    refine wpAny_isTrue_Compare1 (wpAny_Name (wpAny_loadName_local Sh.kind Sh.kC hns₅ (if_pos rfl) (wpAny_Constant_str (eq_str (wpAny_truthy_bool ?_)))) rfl) rfl
    have hne : ((⟨#[cc]⟩ : Str) == "\\") = false := by
      rw [beq_eq_false_iff_ne]
      intro q
      have q' := congrArg Str.cps q
      have h92 : (Str.ofString "\\").cps = #[92] := by decide
      rw [h92] at q'
      exact hT i cc hcc (by simpa -iota using q')
    rw [hne]
    simp -iota only [Bool.false_eq_true, if_false]
    refine seg_execs_cons ?_
    refine seg_Expr_Yield hfs rfl hfg ?_ Sh.co Sh.int
    refine wpAny_Tuple (wpAny_items_cons (wpAny_Name (wpAny_loadName_local Sh.kind Sh.kP hns₅ (by rw [if_neg (by decide), if_pos rfl]) (wpAny_items_cons (wpAny_Name (wpAny_loadName_local Sh.kind Sh.kC hns₅ (if_pos rfl) (wpAny_items_nil ?_)) rfl) rfl)) rfl) rfl)
    refine ⟨by rw [sizeLine_eq]; simp, ?_⟩
    generalize hH : Heap.push h₅ _ = h₆
    have k56 : ∀ b o, h₅.get? b = some o -> h₆.get? b = some o := fun b o q => by rw [<- hH]; exact Heap.get?_push_of_some _ q
    have keep : ∀ b o, b ≠ env.locals -> b ≠ e -> b ≠ it -> s.heap.get? b = some o -> h₆.get? b = some o := fun b o n x y q => k56 b o (k05 b o n x y q)
    have isT : h₆.get? h₅.objs.size = some { cls := .type "tuple", data := .seq #[.int (i : Nat) t1, .str ⟨#[cc]⟩ tx] } := by rw [<- hH]; exact Heap.get?_push_size _ rfl
    have eL := neL e G.e0
    have iL := neL it G.i0
    have old : ∀ b o, h0.get? b = some o -> b ≠ e /\ b ≠ it := fun b o q => ⟨fun r => (by rw [r, G.e0] at q; cases q), fun r => (by rw [r, G.i0] at q; cases q)⟩
    have all6 : ∀ b o, h0.get? b = some o -> ∃ o', h₆.get? b = some o' := fun b o q => by
      by_cases hb : b = env.locals
      . cases hb.symm
        refine cps fun U J => ?_
        obtain ⟨o, _, _, ho, _⟩ := hns₅
        refine J ?_; clear J U
        exact ⟨o, k56 _ _ ho⟩
      . obtain ⟨o', q'⟩ := G.all b o q
        exact ⟨o', keep b o' hb (old b o q).1 (old b o q).2 q'⟩
    have n0 : h0.get? h₅.objs.size = Option.none := by
      cases q : h0.get? h₅.objs.size with
      | none => rfl
      | some o =>
        by_cases hb : h₅.objs.size = env.locals
        . exact absurd hns₅.lt (by rw [hb]; exact Nat.lt_irrefl _)
        . obtain ⟨o', q'⟩ := G.all _ o q
          exact absurd (Heap.lt_size (k05 _ o' hb (old _ o q).1 (old _ o q).2 q')) (Nat.lt_irrefl _)
    obtain ⟨⟨oldv, hen⟩, hsi⟩ := hst₂
    have G6 : GS h0 L0 env.locals T t e it (i + 1) h₆ := by
      refine ⟨⟨_, hns₅.keeps k56, ?_⟩, ⟨oldv, k56 _ _ (k35 _ _ eL (k23 _ _ hen))⟩, ?_, G.ei, G.e0, G.i0, G.l0, G.ll, G.lo, all6⟩
      . rw [if_neg (by decide), if_neg (by decide)]; exact hme
      . obtain ⟨o, ho, r⟩ := hsi
        exact ⟨o, k56 _ _ (k35 _ _ iL (k23 _ _ ho)), r⟩
    intro kap hkap
    refine ⟨⟨i, cc, _, t1, tx, n_sum hk, hcc, rfl, n0, isT⟩, Kp.step fun b o n l q => keep b o n (old b _ l.choose_spec).1 (old b _ l.choose_spec).2 q, fun s'' ho => hkap .none s'' ?_⟩
    obtain ⟨ho, hl0⟩ := ho
    have G7 : GS h0 L0 env.locals T t e it (i + 1) s''.heap := by
      refine cps fun U J => ?_
      obtain ⟨m', hm', hm''⟩ := G6.ns
      obtain ⟨old', hen'⟩ := G6.en
      refine J ?_; clear J U
      refine ⟨⟨m', hm'.at fun o q => ho _ _ G.l0 q, hm''⟩, ⟨old', ho _ _ (neL0 e G.e0) hen'⟩, ?_, G.ei, G.e0, G.i0, G.l0, G.ll, G.lo, fun b o q => ?_⟩
      . obtain ⟨ob, hob, r⟩ := G6.si
        exact ⟨ob, ho _ _ (neL0 it G.i0) hob, r⟩
      . by_cases hb : b = L0
        . cases hb.symm; exact hl0
        . obtain ⟨o', q'⟩ := G6.all b o q
          exact ⟨o', ho _ _ hb q'⟩
    have := ih (i + 1) s'' s'' (n_nx hk) hlt G7 KpG.refl
    rw [n_nx hk] at this
    exact seg_again (by rfl) (hc ▸ this)
end
end

section
open PySem PyProof.Rows

section
variable {prog : Program} {w : World} {A : Around} {h0 hB : Heap} {L0 : Addr} {T : Str} {t : Tok} {env : Env} {te te2 tc : Expr} {ty : List Expr}

theorem gen_start (hA : A.handled = Option.none) (Sh : GShape te tc ty env) (he2 : ∃ p, te2 = .Name "escape" p) {tp tp2 ip yp1 yp2 yp3 p1 p2 a1 a2 a3 a4 a5 a6 f1 f2 f3 f4 i1 : Pos} {kt kt2 ka kb : Nat} {b1 b2 b3 : List Stmt}
    (hT : ∀ (i c : Nat), T.cps[i]? = some c -> c ≠ 92) (hen : GName prog w hB "enumerate" (.type "enumerate")) (V : Envs env) (kN : env.kindOf "enumerate" = some .globalImplicit) (kA : env.kindOf "addr" = some .local)
    (s₀ s : Shared) (hB' : ∀ b o, hB.get? b = some o -> s.heap.get? b = some o) (hLB : hB.get? env.locals = Option.none) {m : Str -> Option Value} (hns : s.heap.Ns env.locals m) (hma : m "addr" = some (.str T t))
    (l0 : env.locals ≠ L0) (ll : ∃ o, h0.get? L0 = some o) (lo : ∃ o, h0.get? env.locals = some o) (all : ∀ b o, h0.get? b = some o -> ∃ o', s.heap.get? b = some o') (Kp : KpG h0 env.locals s₀ s) {body : List Stmt}
    (hbody : body = [.Assign [.Name "pos" a1] (.Constant (.int 0) ka a2) a3, .Assign [.Name "escape" a4] (.Constant (.bool false) kb a5) a6,
      .For (.Tuple [.Name "pos" tp, .Name "ch" tp2] kt ip) (.Call (.Name "enumerate" f1) [.Name "addr" f2] [] f3) [.If te b1 [.If tc b2 [.Expr (.Yield (some (.Tuple ty kt2 yp1)) yp2) yp3] p1] p2] [] f4, .If te2 b3 [] i1]) :
    Seg (model prog w) A (RP h0 env.locals) (YP h0 L0 env.locals T) T.cps.size s₀ (.func body env) ((model prog w).den (.func body env)) [] s := by
  refine seg_func ?_
  generalize hc : Code.func body env = code
  rw [hbody]
  have hp : (env.scope.kind == .class || (env.scope.kind == .module && env.locals != env.globals)) = false := by rw [Sh.kind]; rfl
  refine seg_execs_cons (seg_exec (wpAny_Assign_Name (wpAny_Constant_int (wpAny_storeName_local Sh.kP hns (fun h₁ hns₁ hs₁ => ?_) hp)) rfl))
  refine seg_execs_cons (seg_exec (wpAny_Assign_Name (wpAny_Constant_bool (wpAny_storeName_local Sh.kE hns₁ (fun h₂ hns₂ hs₂ => ?_) hp)) rfl))
  replace hs₁ : Heap.SameBut env.locals s.heap h₁ := hs₁
  replace hs₂ : Heap.SameBut env.locals h₁ h₂ := hs₂
  have k2 : ∀ b o, b ≠ env.locals -> s.heap.get? b = some o -> h₂.get? b = some o := fun b o n q => hs₂.extBut b o n (hs₁.extBut b o n q)
  have all2 : ∀ b o, h0.get? b = some o -> ∃ o', h₂.get? b = some o' := fun b o q => by
    by_cases hb : b = env.locals
    . subst hb
      obtain ⟨o, _, _, ho, _⟩ := hns₂
      exact ⟨o, ho⟩
    . obtain ⟨o', q'⟩ := all b o q
      exact ⟨o', k2 b o' hb q'⟩
  have hB2 : ∀ b o, hB.get? b = some o -> h₂.get? b = some o := fun b o q => k2 b o (fun r => by rw [r, hLB] at q; cases q) (hB' b o q)
  refine seg_execs_cons (seg_For (fun y_ => rfl) ?_)
  refine Call_Name rfl (wpAny_Name (hen env _ _ _ _ V kN hB2 ?_) rfl)
  refine callWith_type1 (wpAny_items_cons (wpAny_Name (wpAny_loadName_local Sh.kind kA hns₂ (v := .str T t) (by rw [if_neg (by decide), if_neg (by decide)]; exact hma) (wpAny_items_nil ?_)) rfl) rfl) rfl rfl
  refine call_enumerate_str fun h₃ hE hI hz hk₃ => ?_
  replace hk₃ : ∀ b o, h₂.get? b = some o -> h₃.get? b = some o := hk₃
  refine wpAny_pyIter_enum hE fun p => ?_
  have none2 : ∀ b, h₂.objs.size <= b -> h0.get? b = Option.none := fun b hb => by
    cases q : h0.get? b with
    | none => rfl
    | some o =>
      obtain ⟨o', q'⟩ := all2 b o q
      exact absurd (Nat.lt_of_lt_of_le (Heap.lt_size q') hb) (Nat.lt_irrefl _)
  refine gen_loop hA Sh (by rfl) (by rfl) (t := t) (it := h₂.objs.size) (fun c => by exact hA) hT (fun c s₁ s₂ G Kp2 => ?_) T.cps.size 0 s₀ _ (Nat.sub_zero _) (Nat.zero_le _) ⟨⟨_, hns₂.keeps hk₃, ?_⟩, ⟨_, hE⟩, hI, ?_, none2 _ (Nat.le_succ _), none2 _ (Nat.le_refl _), l0, ll, lo, fun b o q => ?_⟩ (Kp.step fun b o n l q => hk₃ b o (k2 b o n q))
  . refine seg_leaf (.ok .next) ?_
    obtain ⟨m', hm', hme'⟩ := G
    obtain ⟨q1, rfl⟩ := he2
    show Seg _ _ _ _ 0 s₁ code ((PySem.execs [.If (.Name "escape" q1) b3 [] i1] env).wrap _ _ _ _) [] s₂
    refine seg_execs_cons (seg_If ?_)
    refine wpAny_isTrue_value (wpAny_Name (wpAny_loadName_local Sh.kind Sh.kE hm' hme' (wpAny_truthy_bool ?_)) rfl) rfl
    simp only [Bool.false_eq_true, if_false]
    exact seg_end (.ok (.ret .none)) ⟨rfl, rfl, Kp2⟩
  . rw [if_pos rfl]
  . exact Nat.succ_ne_self _
  . obtain ⟨o', q'⟩ := all2 b o q
    exact ⟨o', hk₃ b o' q'⟩
end
end

section
open PySem PyProof.Rows

section
variable {prog : Program} {w : World} {A : Around} {E : Value -> Shared -> Prop} {s : Shared}

theorem pyNext_genF {a : Addr} {g n : Nat} {gs : GenState} {P : Nat -> Shared -> Shared -> Prop} {Y : Protocol} {Q : Option Value -> Shared -> Prop} (hh : A.handled = Option.none)
    (hl : s.heap.NoLimit) (hroom : A.depth < recursionLimit) (hg : s.heap.IsGen a g) (hgs : s.gens[g]? = some gs)
    (hgo : gs.Goes (model prog w) A.in1 (fun n s₀ r s₁ => r = .ok (.ret .none) /\ P n s₀ s₁) Y n (.send .none) (s.setGen g .running))
    (hY : ∀ v s₁ gs', gs'.bare = true -> Y (n - 1) (s.setGen g .running) v s₁ (fun r' s'' => match n with
        | 0 => False
        | m + 1 => gs'.Goes (model prog w) A.in1 (fun n s₀ r s₁ => r = .ok (.ret .none) /\ P n s₀ s₁) Y m r' s'') -> Q (some v) (s₁.setGen g gs'))
    (hP : ∀ s₁, P n (s.setGen g .running) s₁ -> ∀ h', (∀ b o, s₁.heap.get? b = some o -> h'.get? b = some o) -> Q Option.none { s₁.setGen g .finished with heap := h' }) :
    wpAny (model prog w) A (pyNext (.ref a)) Q E s := by
  unfold pyNext
  refine wpAny_bind (wpAny_attempt (wpAny_callSpecial?_slot (name := Str.ofString "__next__") hg.typeIs slot_gen_next
    (wpAny_call_entry slot_gen_next hg.typeIs entry_gen_next ?_ (args_gen_next _))))
  show wpAny _ A.in1 (Builtin.Generator.genWake (.ref a) (.send .none)) _ _ s
  unfold Builtin.Generator.genWake
  refine wpAny_bind (wpAny_holding (wpAny_genNumber hg (wpAny_bind (wpAny_genState hgs ?_))))
  cases gs with
  | running => exact hgo.elim
  | finished => exact hgo.elim
  | _ =>
    refine wpAny_bind (wpAny_roomToWake hl hroom ?_)
    show wpAny _ A.in1 (.resume g (.send .none) [] _) _ _ s
    refine wpAny_resumeQ hgs hgo (fun x s₁ hx => ?_) (fun v s₁ gs' hb hv => wpAny_pure ⟨v, rfl, wpAny_pure (hY v s₁ gs' hb hv)⟩)
    obtain ⟨rfl, hp⟩ := hx
    show wpAny _ _ (newExc (.type "StopIteration") [] >>= _) _ _ _
    refine wpAny_bind ?_
    simp -iota only [newExc, newTuple]
    refine wpAny_bind (wpAny_newObj_type ?_ (by size_fits))
    refine wpAny_bind (m := firstArgMember _ _) (wpAny_of_eq (a := Value.none) (by first | rfl | (simp -iota only [firstArgMember]; rfl)) ?_)
    refine wpAny_newObj_type ?_ (by size_fits)
    simp -iota only [raiseNew]
    refine wpAny_bind (wpAny_bind (wpAny_handled ?_))
    rw [show A.in1.handled = Option.none from hh]
    refine wpAny_throw (wpAny_bind (wpAny_isInstance (T := "StopIteration") (b := true) ⟨_, Heap.get?_push_size _ rfl, rfl⟩ isSubtype_stop ?_))
    exact wpAny_pure (hP s₁ hp _ fun b o hb => Heap.get?_push_of_some _ (Heap.get?_push_of_some _ hb))
end
end

section
open PySem PyProof.Rows

noncomputable def pstep (n : Int) (c : Nat) : Option Int := if c = 40 then some (n + 1) else if c = 41 then (if n - 1 < 0 then Option.none else some (n - 1)) else some n
noncomputable def pgo : Int -> List Nat -> Bool
  | n, [] => n == 0
  | n, c :: l => match pstep n c with
    | some n' => pgo n' l
    | Option.none => false

section
variable {prog : Program} {w : World} {A : Around} {E : Value -> Shared -> Prop} {s s' s'' : Shared} {hB hE : Heap} {env : Env} {k : Nat}

theorem bare_set {s : Shared} {g : Nat} {x : GenState} (h : AllBare s.gens) (hx : x.bare = true) : AllBare (s.setGen g x).gens := by
  intro y hy
  simp -iota only [Shared.setGen] at hy
  obtain ⟨i, hi, rfl⟩ := Array.mem_iff_getElem.mp hy
  rw [Array.getElem_setIfInBounds (by simpa -iota using hi)]
  split
  . exact hx
  . exact h _ (Array.getElem_mem _)

structure PEnv (env : Env) : Prop where
  kind : env.scope.kind = .function
  kO : env.kindOf "opens" = some .local
  kP : env.kindOf "pos" = some .local
  kC : env.kindOf "ch" = some .local

noncomputable def PThen (L : Addr) (n : Int) (c : Nat) (s : Shared) (f : Flow) (s' : Shared) : Prop :=
  ∃ h' tk m', s' = { s with heap := h', toks := tk } /\ h'.Ns L m' /\ (∀ b o, b ≠ L -> s.heap.get? b = some o -> h'.get? b = some o) /\
    match pstep n c with
    | some n' => f = .next /\ ∃ t', m' "opens" = some (.int n' t')
    | Option.none => f = .ret (.bool false)

theorem sign_eq {c d : Nat} {x : Str} (hx : x.cps = #[d]) : ((⟨#[c]⟩ : Str) == x) = (c == d) := by
  have e : x = ⟨#[d]⟩ := by cases x; simp -iota only at hx; rw [hx]
  rw [e, Bool.eq_iff_iff]
  simp -iota

theorem paren_body (P : PEnv env) {p1 p2 p3 p4 p5 p6 p7 p8 p9 q1 q2 q3 q4 q5 q6 q7 q8 q9 q10 q11 : Pos} {k1 k2 k3 k4 k5 k6 : Nat} {m : Str -> Option Value} {n : Int} {t u : Tok} {c : Nat} (hns : s.heap.Ns env.locals m) (ho : m "opens" = some (.int n t)) (hc : m "ch" = some (.str ⟨#[c]⟩ u)) :
    wpAny (model prog w) A (PySem.execs [.If (.Compare (.Name "ch" p1) [.Eq] [.Constant (.str "(") k1 p2] p3) [.AugAssign (.Name "opens" p4) .Add (.Constant (.int 1) k2 p5) p6]
      [.If (.Compare (.Name "ch" p7) [.Eq] [.Constant (.str ")") k3 p8] p9) [.AugAssign (.Name "opens" q1) .Sub (.Constant (.int 1) k4 q2) q3, .If (.Compare (.Name "opens" q4) [.Lt] [.Constant (.int 0) k5 q5] q6) [.Return (some (.Constant (.bool false) k6 q7)) q8] [] q9] [] q10] q11] env)
      (PThen env.locals n c s) E s := by
  have hp : (env.scope.kind == .class || (env.scope.kind == .module && env.locals != env.globals)) = false := by rw [P.kind]; rfl
  refine wpAny_execs_cons (wpAny_If ?_)
  refine wpAny_isTrue_Compare1 (wpAny_Name (wpAny_loadName_local P.kind P.kC hns hc (wpAny_Constant_str (eq_str (wpAny_truthy_bool ?_)))) rfl) rfl
  rw [sign_eq (d := 40) (by decide)]
  by_cases h40 : c = 40
  . subst h40
    simp -iota only [beq_self_eq_true, if_true]
    refine wpAny_execs_cons (wpAny_AugAssign_Name (wpAny_loadName_local P.kind P.kO hns ho (wpAny_Constant_int (PySem.P.iadd_int (wpAny_storeName_local P.kO hns (fun h' hn' hs' => ?_) hp)))))
    refine wpAny_execs_nil (wpAny_execs_nil ⟨h', _, _, rfl, hn', fun b o nb e => (hs'.2 b nb).trans e, ?_⟩)
    simp only [pstep, if_true]
    exact ⟨trivial, _, rfl⟩
  . have e40 : (c == 40) = false := by simpa -iota using h40
    rw [e40]
    simp -iota only [Bool.false_eq_true, if_false]
    refine wpAny_execs_cons (wpAny_If ?_)
    refine wpAny_isTrue_Compare1 (wpAny_Name (wpAny_loadName_local P.kind P.kC hns hc (wpAny_Constant_str (eq_str (wpAny_truthy_bool ?_)))) rfl) rfl
    rw [sign_eq (d := 41) (by decide)]
    by_cases h41 : c = 41
    . subst h41
      simp -iota only [beq_self_eq_true, if_true]
      refine wpAny_execs_cons (wpAny_AugAssign_Name (wpAny_loadName_local P.kind P.kO hns ho (wpAny_Constant_int (PySem.P.isub_int (wpAny_storeName_local P.kO hns (fun h' hn' hs' => ?_) hp)))))
      replace hs' : Heap.SameBut env.locals s.heap h' := hs'
      refine wpAny_execs_cons (wpAny_If ?_)
      refine wpAny_isTrue_Compare1 (wpAny_Name (wpAny_loadName_local P.kind P.kO hn' (if_pos rfl) (wpAny_Constant_int (lt_int (wpAny_truthy_bool ?_)))) rfl) rfl
      by_cases hlt : n - 1 < 0
      . simp -iota only [hlt, decide_true, if_true]
        refine wpAny_execs_cons (wpAny_Return_some (wpAny_Constant_bool ?_))
        refine ⟨h', _, _, rfl, hn', fun b o nb e => (hs'.2 b nb).trans e, ?_⟩
        simp only [pstep, hlt, if_true, if_false, show ¬ (41 : Nat) = 40 by decide]
      . simp -iota only [hlt, decide_false, Bool.false_eq_true, if_false]
        refine wpAny_execs_nil (wpAny_execs_nil (wpAny_execs_nil (wpAny_execs_nil ⟨h', _, _, rfl, hn', fun b o nb e => (hs'.2 b nb).trans e, ?_⟩)))
        simp -iota only [pstep, hlt, if_true, if_false, show ¬ (41 : Nat) = 40 by decide]
        exact ⟨trivial, _, rfl⟩
    . have e41 : (c == 41) = false := by simpa -iota using h41
      rw [e41]
      simp -iota only [Bool.false_eq_true, if_false]
      refine wpAny_execs_nil (wpAny_execs_nil (wpAny_execs_nil ⟨s.heap, _, _, rfl, hns, fun b o nb e => e, ?_⟩))
      simp -iota only [pstep, h40, h41, if_false]
      exact ⟨trivial, _, ho⟩
end
end

section
open PySem PyProof.Rows

section
variable {prog : Program} {w : World} {A : Around} {E : Value -> Shared -> Prop} {s s' s'' : Shared} {hB hE : Heap} {env : Env} {k : Nat}

structure PInv (prog : Program) (w : World) (A : Around) (h0 : Heap) (L0 L a : Addr) (g : Nat) (X : Str) (s : Shared) (res : Bool) (i : Nat) (n : Int) (gs : GenState) (si : Shared) : Prop where
  gen : si.heap.IsGen a g
  at_ : si.gens[g]? = some gs
  goes : ∀ s'', OutG L0 si s'' -> gs.Goes (model prog w) A.in1 (RP h0 L) (YP h0 L0 L X) (X.cps.size - i) (.send .none) s''
  ns : ∃ m t, si.heap.Ns L0 m /\ m "opens" = some (.int n t)
  bare : AllBare si.gens
  os : si.os = s.os
  kept : ∀ b o, b ≠ L0 -> s.heap.get? b = some o -> si.heap.get? b = some o
  rest : pgo n (X.cps.toList.drop i) = res

noncomputable def PEnd (L0 : Addr) (s : Shared) (res : Bool) (f : Flow) (s' : Shared) : Prop :=
  s'.os = s.os /\ AllBare s'.gens /\ (∀ b o, b ≠ L0 -> s.heap.get? b = some o -> s'.heap.get? b = some o) /\ (∃ o, s'.heap.get? L0 = some o) /\
  ((f = .next /\ ∃ m t n, s'.heap.Ns L0 m /\ m "opens" = some (.int n t) /\ (n == 0) = res) \/ (f = .ret (.bool false) /\ res = false))

theorem PInv.moved {h0 : Heap} {L0 L a : Addr} {g : Nat} {X : Str} {res : Bool} {i : Nat} {n : Int} {gs x : GenState} {si s₁ : Shared} (G : PInv prog w A h0 L0 L a g X s res i n gs si) (hx : x.bare = true)
    (hs0 : ∀ b o, s.heap.get? b = some o -> h0.get? b = some o) (hL : s.heap.get? L = Option.none) (hL0 : ∃ o, s.heap.get? L0 = some o) (hLa : a ≠ L) (ha0 : ∃ o, h0.get? a = some o)
    (Kp : KpG h0 L (si.setGen g .running) s₁) : s₁.heap.IsGen a g /\ (s₁.setGen g x).gens[g]? = some x /\ (∃ m t, s₁.heap.Ns L0 m /\ m "opens" = some (.int n t)) /\ AllBare (s₁.setGen g x).gens /\ s₁.os = s.os /\
      (∀ b o, b ≠ L0 -> s.heap.get? b = some o -> s₁.heap.get? b = some o) := by
  refine cps fun U J => ?_
  obtain ⟨h', tk, rfl, kp⟩ := Kp
  have neL : ∀ b o, s.heap.get? b = some o -> b ≠ L := fun b o e q => by rw [q, hL] at e; cases e
  obtain ⟨oL, eL⟩ := hL0
  refine J ?_; clear J U
  have sg : (si.setGen g .running).gens[g]? = some .running := setGen_self G.at_
  refine ⟨?_, setGen_self (s := { si.setGen g .running with heap := h', toks := tk }) sg, ?_, bare_set (s := { si.setGen g .running with heap := h', toks := tk }) (bare_set G.bare rfl) hx, G.os, fun b o nb e => kp b o (neL b o e) ⟨o, hs0 b o e⟩ (G.kept b o nb e)⟩
  . refine cps fun U J => ?_
    obtain ⟨ob, nm, qn, ho, r⟩ := G.gen
    refine J ?_; clear J U
    exact ⟨ob, nm, qn, kp a ob hLa ha0 ho, r⟩
  . refine cps fun U J => ?_
    obtain ⟨m, t, hm, ho⟩ := G.ns
    refine J ?_; clear J U
    exact ⟨m, t, hm.at fun o e => kp L0 o (neL L0 oL eL) ⟨oL, hs0 L0 oL eL⟩ e, ho⟩

theorem paren_loop (P : PEnv env) {h0 : Heap} {L a : Addr} {g : Nat} {X : Str} {res : Bool} (R : Room k A) (hs0 : ∀ b o, s.heap.get? b = some o -> h0.get? b = some o) (hL : s.heap.get? L = Option.none) (hL0 : ∃ o, s.heap.get? env.locals = some o)
    (hLa : a ≠ L) (ha0 : ∃ o, h0.get? a = some o) (haS : s.heap.get? a = Option.none) (hlim : hB.NoLimit) (hB0 : ∀ b o, hB.get? b = some o -> s.heap.get? b = some o) (hBL : hB.get? env.locals = Option.none)
    {Q : Flow -> Shared -> Prop} {RE : Value -> Shared -> Prop} (hQ : ∀ f s', PEnd env.locals s res f s' -> Q f s') {s0 : Shared} {gs0 : GenState} (G0 : PInv prog w A h0 env.locals L a g X s res 0 0 gs0 s0)
    {tp tp2 ip p1 p2 p3 p4 p5 p6 p7 p8 p9 q1 q2 q3 q4 q5 q6 q7 q8 q9 q10 q11 : Pos} {kt k1 k2 k3 k4 k5 k6 : Nat} :
    codeAny (model prog w) A (.forLoop (.Tuple [.Name "pos" tp, .Name "ch" tp2] kt ip) (.ref a) [.If (.Compare (.Name "ch" p1) [.Eq] [.Constant (.str "(") k1 p2] p3) [.AugAssign (.Name "opens" p4) .Add (.Constant (.int 1) k2 p5) p6]
      [.If (.Compare (.Name "ch" p7) [.Eq] [.Constant (.str ")") k3 p8] p9) [.AugAssign (.Name "opens" q1) .Sub (.Constant (.int 1) k4 q2) q3, .If (.Compare (.Name "opens" q4) [.Lt] [.Constant (.int 0) k5 q5] q6) [.Return (some (.Constant (.bool false) k6 q7)) q8] [] q9] [] q10] q11] [] env) (fun res s' => match res with | .ok f => Q f s' | .error e => RE e s') s0 := by
  refine codeAny_forLoop_any (fun j si => ∃ i n gs, i + j = X.cps.size /\ PInv prog w A h0 env.locals L a g X s res i n gs si) (fun j si hI => ?_) X.cps.size ⟨0, 0, gs0, by simp, G0⟩
  refine cps fun U J => ?_
  obtain ⟨i, n, gs, hn, G⟩ := hI
  obtain ⟨oL, eL⟩ := id hL0
  refine J ?_; clear J U
  have laidL : ∃ o, si.heap.get? env.locals = some o := by
    refine cps fun U J => ?_
    obtain ⟨m, t, hm, _⟩ := G.ns
    obtain ⟨o, _, _, ho, _⟩ := hm
    refine J ?_; clear J U
    exact ⟨o, ho⟩
  have neLoc : ∀ b o, hB.get? b = some o -> b ≠ env.locals := fun b o e q => by rw [q, hBL] at e; cases e
  have neL : ∀ b o, s.heap.get? b = some o -> b ≠ L := fun b o e q => by rw [q, hL] at e; cases e
  have aL : a ≠ env.locals := fun q => by rw [q, eL] at haS; cases haS
  have lim : si.heap.NoLimit := hlim.keeps fun b o e => G.kept b o (neLoc b o e) (hB0 b o e)
  refine pyNext_genF R.handled lim (Nat.lt_trans (s_l R.depth) (by decide)) G.gen G.at_ (G.goes _ ⟨fun b o y_ e => e, laidL⟩) (fun v s₁ gs' hb hY => ?_) (fun s₁ hp h' hk => ?_)
  . refine cps fun U J => ?_
    obtain ⟨⟨i', c, a', tk, u, hi, hc, rfl, hnew, ht⟩, Kp, hkap⟩ := hY
    obtain ⟨gen1, at1, ns1, bare1, os1, kept1⟩ := G.moved hb hs0 hL hL0 hLa ha0 Kp
    refine J ?_; clear J U
    have laid1 : ∃ o, s₁.heap.get? env.locals = some o := by
      refine cps fun U J => ?_
      obtain ⟨m, t, hm, _⟩ := ns1
      obtain ⟨o, _, _, ho, _⟩ := hm
      refine J ?_; clear J U
      exact ⟨o, ho⟩
    have hlt : i < X.cps.size := by
      rcases Nat.lt_or_ge i X.cps.size with q | q
      . exact q
      . exfalso
        have e : X.cps.size - i = 0 := Nat.sub_eq_zero_of_le q
        rw [e] at hkap
        exact hkap s₁ ⟨fun b o y_ e => e, laid1⟩
    obtain ⟨m, hm⟩ := n_ex hlt
    rw [hm] at hkap hi
    simp only [Nat.add_sub_cancel] at hi
    have hii : i' = i := Nat.add_right_cancel (Nat.add_right_cancel (hi.trans (n_sum hm).symm))
    subst hii
    dsimp only
    refine cps fun U J => ?_
    obtain ⟨og, nmg, qng, hog, hgc, hgr⟩ := id gen1
    refine J ?_; clear J U
    refine go_plain (o := og) hog hgc (by decide) ?_
    have hd : X.cps.toList.drop i' = c :: X.cps.toList.drop (i' + 1) := by
      have hl : i' < X.cps.toList.length := by simpa using hlt
      rw [List.drop_eq_getElem_cons hl]
      congr 1
      have : X.cps.toList[i']? = some c := by simpa using hc
      rw [List.getElem?_eq_getElem hl] at this
      exact Option.some.inj this
    have hf := G.rest
    rw [hd] at hf
    have hT : (s₁.setGen g gs').heap.IsTuple a' #[.int (i' : Nat) tk, .str ⟨#[c]⟩ u] := ⟨_, ht, rfl, _, rfl⟩
    refine cps fun U J => ?_
    obtain ⟨m1, t1, hns1, ho1⟩ := ns1
    refine J ?_; clear J U
    have hp : (env.scope.kind == .class || (env.scope.kind == .module && env.locals != env.globals)) = false := by rw [P.kind]; rfl
    refine wpAny_assign_Tuple R.handled hT rfl rfl fun h₃ hx₃ => ?_
    show wpAny _ _ (do holding [Value.str ⟨#[c]⟩ u] (assign (.Name "pos" tp) env (.int (i' : Nat) tk)); do holding [] (assign (.Name "ch" tp2) env (.str ⟨#[c]⟩ u)); pure ()) _ _ _
    replace hx₃ : Heap.ExtBut s₁.heap.objs.size s₁.heap h₃ := hx₃
    have k13 : ∀ b o, s₁.heap.get? b = some o -> h₃.get? b = some o := fun b o q => hx₃ b o (Nat.ne_of_lt (Heap.lt_size q)) q
    refine wpAny_bind (wpAny_holding (wpAny_assign_Name (wpAny_storeName_local P.kP (hns1.keeps k13) (fun h₄ hns₄ hs₄ => ?_) hp)))
    refine wpAny_bind (wpAny_holding (wpAny_assign_Name (wpAny_storeName_local P.kC hns₄ (fun h₅ hns₅ hs₅ => wpAny_pure ?_) hp)))
    replace hs₄ : Heap.SameBut env.locals h₃ h₄ := hs₄
    replace hs₅ : Heap.SameBut env.locals h₄ h₅ := hs₅
    have k15 : ∀ b o, b ≠ env.locals -> s₁.heap.get? b = some o -> h₅.get? b = some o := fun b o nb q => hs₅.extBut b o nb (hs₄.extBut b o nb (k13 b o q))
    refine wpAny_mono (paren_body (n := n) P hns₅ (by rw [if_neg (by decide), if_neg (by decide)]; exact ho1) (if_pos rfl)) (fun f s₃ q3 => ?_) fun y_ y_ e => e
    refine cps fun U J => ?_
    obtain ⟨h', tk', m', rfl, hns', k5, hst⟩ := q3
    refine J ?_; clear J U
    have kept3 : ∀ b o, b ≠ env.locals -> s.heap.get? b = some o -> h'.get? b = some o := fun b o nb e => k5 b o nb (k15 b o nb (kept1 b o nb e))
    unfold pgo at hf
    cases hpst : pstep n c with
    | none =>
      rw [hpst] at hst hf
      obtain rfl := hst
      exact hQ _ _ ⟨os1, bare1, kept3, (let ⟨o, _, _, e, _⟩ := hns'; ⟨o, e⟩), .inr ⟨rfl, hf.symm⟩⟩
    | some n' =>
      rw [hpst] at hst hf
      refine cps fun U J => ?_
      obtain ⟨rfl, t', ho'⟩ := hst
      refine J ?_; clear J U
      obtain ⟨j', rfl⟩ := n_z hn hlt
      refine ⟨j', Nat.lt_succ_self j', i' + 1, n', gs', n_sh hn, ?_, at1, fun s'' ho => ?_, ⟨m', t', hns', ho'⟩, bare1, os1, kept3, hf⟩
      . exact ⟨og, nmg, qng, k5 a og aL (k15 a og aL hog), hgc, hgr⟩
      . rw [n_nx hm]
        exact hkap s'' ⟨fun b o nb e => ho.1 b o nb (k5 b o nb (k15 b o nb e)), ho.2⟩
  . refine cps fun U J => ?_
    obtain ⟨hz, Kp⟩ := hp
    obtain ⟨gen1, at1, ⟨m1, t1, hns1, ho1⟩, bare1, os1, kept1⟩ := G.moved (x := .finished) rfl hs0 hL hL0 hLa ha0 Kp
    refine J ?_; clear J U
    have hin : i = X.cps.size := n_end hz (Nat.le_of_add_right_le (Nat.le_of_eq hn))
    have hf := G.rest
    have hd : X.cps.toList.drop i = [] := by rw [hin]; simp
    rw [hd] at hf
    exact wpAny_execs_nil (hQ _ _ ⟨os1, bare1, fun b o nb e => hk b o (kept1 b o nb e), (let ⟨o, _, _, e, _⟩ := hns1; ⟨o, hk _ _ e⟩), .inl ⟨rfl, m1, t1, n, hns1.keeps hk, ho1, hf⟩⟩)
end
end

section
open PySem PyProof.Rows

section
variable {prog : Program} {w : World} {A : Around} {s s₁ s' s'' : Shared} {hB hE : Heap} {B : Av} {sc cs : Scope} {env : Env} {W W' W'' : Own} {r r' : Internal.Loc} {o : Orc} {k : Nat}

noncomputable def FnOkAt (prog : Program) (w : World) (hB : Heap) (k : Nat) (a : Addr) (F : List PV -> Option PV) : Prop :=
  ∀ (as : List PV) (p : PV), F as = some p -> ∀ (A : Around) (V : Av) (s : Shared) (vs : List Value), Room k A -> (∀ b o, hB.get? b = some o -> s.heap.get? b = some o) -> Laid V s.heap -> (∀ b, V b -> hB.get? b = none) ->
      AllBare s.gens -> RdL s.heap V as vs -> wpAny (model prog w) A (call (.ref a) vs) (Gives1 V s p) NoE s

theorem fn_genAt {f : Str} {names : List Str} {body : List Stmt} {a : Addr} {ob : Obj} {fd : FuncData} {Fp : List PV -> Option PV} (F : FnAt prog w hB f names body sc a ob fd) (hs : okScope sc names = true)
    (H : ∀ as p, Fp as = some p -> as.length = names.length /\ ∀ (A : Around) (V : Av) (env : Env) (hE : Heap) (s₁ : Shared), Room k A -> StorL hE sc env -> Live hE hB V sc env (fun y_ => Option.none) (upAll names as fun y_ => Option.none) s₁ ->
      wpAny (model prog w) A (PySem.execs body env) (OutP hB V sc env (fun y_ => Option.none) s₁ (.ret p)) NoE s₁) : FnOkAt prog w hB (k + 1) a Fp := by
  intro as p hF A V s vs R hBs LV VB G rd
  obtain ⟨hlen, Hb⟩ := H as p hF
  . skip
    unfold okScope at hs
    simp only [Bool.and_eq_true, beq_iff_eq, Bool.not_eq_true', List.all_eq_true, bne_iff_ne, ne_eq, Bool.or_eq_true] at hs
    refine cps fun U J => ?_
    obtain ⟨⟨⟨⟨hk, hco⟩, hge⟩, hnm⟩, hpar⟩ := hs
    refine J ?_; clear J U
    have hvl := rd.length
    have kf : ∀ x, (callEnvC fd s.heap.objs.size a).kindOf x = kd sc x := fun x => by
      show fd.scope.names.lookup x = _
      rw [F.scope]; rfl
    have noFree : ∀ x, kd sc x ≠ some .free := fun x q => (hnm _ (mem_of_kd q)).2 rfl
    have nL : s.heap.get? s.heap.objs.size = Option.none := size_free _
    have base0 := newCells_aux sc.names (s.heap.push { cls := .type "frame", data := .dict #[] }) [] (s.heap.objs.size + 1) (by rw [Heap.size_push]; exact Nat.le_refl _) (fun y_ y_ h => by cases h) (fun y_ y_ h => by cases h) (fun y_ y_ y_ y_ h => by cases h)
    rw [Heap.size_push] at base0
    obtain ⟨_, _, cellIs, _⟩ := base0
    have cellSome : ∀ x, kd sc x = some .cell -> ∃ c, (cellsFrom (s.heap.objs.size + 1) fd.scope.names []).lookup x = some c := fun x q => by
      rw [F.scope]
      obtain ⟨c, h, _⟩ := cellIs x (mem_of_kd q)
      exact ⟨c, h⟩
    refine wpAny_call (codeAny_call_cells (binds := names.zip vs) (Nat.lt_of_le_of_lt (Nat.le_add_right _ _) (Nat.lt_trans R.depth (by decide))) (hBs _ _ F.at_) F.data ?_ (F.code.keeps hBs) F.body (F.bind vs (by first | exact hvl.symm.trans hlen | exact hvl.trans hlen)) F.closure (fun x hx => ?_) (fun s₁ X => ?_) (by rw [F.scope]; exact hco) (by rw [F.scope]; exact hge) (by rw [F.scope]; exact hk))
    . exact F.lim.keeps hBs
    . have hm := hpar x.1 (List.of_mem_zip hx).1
      rw [F.scope]
      rcases hm with hm | hm
      . exact .inl hm
      . refine .inr ⟨hm, ?_⟩
        obtain ⟨c, hc⟩ := cellSome x.1 hm
        rw [F.scope] at hc
        rw [hc]; rfl
    . obtain ⟨h₁, tk, hs1⟩ := X.toInCall.same
      have keep := X.toInCall.keep
      have nsz : ∀ b o, s.heap.get? b = some o -> b < s.heap.objs.size := fun b o e => Heap.lt_size e
      have cells : ∀ x c, (callEnvC fd s.heap.objs.size a).cells.lookup x = some c -> s.heap.objs.size < c := fun x c h => X.above x c (mem_of_lookup h)
      have noneC : ∀ c, s.heap.objs.size < c -> s.heap.get? c = Option.none := fun c h => Heap.get?_none_of_le (Nat.le_of_lt h)
      have noneB : ∀ b, s.heap.get? b = Option.none -> hB.get? b = Option.none := fun b h => by
        cases e : hB.get? b with
        | none => rfl
        | some o => rw [hBs b o e] at h; cases h
      have rel := bind_rel (h := s₁.heap) (V := VE V (callEnvC fd s.heap.objs.size a) (fun y_ => Option.none) []) (kf := (callEnvC fd s.heap.objs.size a).kindOf) (names := names) (m := fun y_ => Option.none) (cm := fun y_ => Option.none) (r := fun y_ => Option.none) hlen (rd.mono (Gr.of_ext keep) fun b o e v => by
        rcases v with v | v | ⟨x, v⟩ | ⟨x, _, v⟩
        . exact v
        . subst v; rw [show (callEnvC fd s.heap.objs.size a).locals = s.heap.objs.size from rfl, nL] at e; cases e
        . rw [noneC _ (cells x b v)] at e; cases e
        . cases v) (fun y_ y_ e => by cases e)
      have S1 : St hB V sc (callEnvC fd s.heap.objs.size a) (fun y_ => Option.none) (upAll names as fun y_ => Option.none) s₁.heap := by
        refine ⟨⟨?_, F.globals, F.builtins⟩, fun x => .inl (kf x), fun x h => ?_, fun x q h => ?_, fun b o e => keep b o (hBs b o e), fun b v => ?_, fun b v => ?_, fun x a h => (by cases h), ?_, fun x hx => ?_⟩
        . show fd.scope.kind = _; rw [F.scope]; exact hk
        . rw [kf] at h; exact absurd h (noFree x)
        . have := (hnm _ (mem_of_kd h)).1
          simpa using this
        . rcases v with v | v | ⟨x, v⟩ | ⟨x, _, v⟩
          . obtain ⟨o, e⟩ := LV b v; exact ⟨o, keep b o e⟩
          . subst v; obtain ⟨o, _, _, e, _⟩ := X.toInCall.ns; exact ⟨o, e⟩
          . obtain ⟨o, e, _⟩ := X.cell x b v; exact ⟨o, e⟩
          . cases v
        . rcases v with v | v | ⟨x, v⟩ | ⟨x, _, v⟩
          . exact VB b v
          . subst v; exact noneB _ nL
          . exact noneB _ (noneC _ (cells x b v))
          . cases v
        . refine ⟨_, X.toInCall.ns, fun x sl hx e => ?_⟩
          refine cps fun U J => ?_
          obtain ⟨p, v, rfl, e2, e3⟩ := rel x sl e
          refine J ?_; clear J U
          rw [kf, if_pos hx] at e2
          exact ⟨v, e2, e3⟩
        . rcases hx with hx | hx
          . obtain ⟨c, hc⟩ := cellSome x hx
            refine ⟨c, hc, _, X.cell x c hc, fun sl e => ?_⟩
            obtain ⟨p, v, rfl, e2, e3⟩ := rel x sl e
            rw [kf, if_neg (by rw [hx]; exact fun h => by cases h)] at e2
            exact ⟨v, e2, e3⟩
          . exact absurd hx (noFree x)
      have T1 : StorL s.heap sc (callEnvC fd s.heap.objs.size a) := ⟨nL, fun x c y_ h => noneC c (cells x c h), fun x c h => Nat.ne_of_gt (cells x c h), fun x y c y_ h1 h2 => name_of_addr X.apart (mem_of_lookup h1) (mem_of_lookup h2)⟩
      have gens1 : s₁.gens = s.gens := by rw [hs1]
      have os1 : s₁.os = s.os := by rw [hs1]
      have Lv : Live s.heap hB V sc (callEnvC fd s.heap.objs.size a) (fun y_ => Option.none) (upAll names as fun y_ => Option.none) s₁ := ⟨S1, keep, fun y_ y_ h => (by cases h), by rw [gens1]; exact G⟩
      have R1 : Room k (A.deeper (callEnvC fd s.heap.objs.size a)) := ⟨R.handled, R.in1.1, R.in1.2⟩
      refine wpAny_mono (Hb _ V _ s.heap s₁ R1 T1 Lv) (fun fl s₂ q2 => ?_) fun y_ y_ e => e.elim
      obtain ⟨v, rfl, rdv, st⟩ := q2
      refine ⟨⟨fun b o e => st.kept b o (fun m => ?_) (keep b o e), st.os.trans os1, fun g => st.gens (by rw [gens1]; exact g)⟩, rdv⟩
      have hb := nsz b o e
      rcases m with (rfl | ⟨x, _, h⟩) | ⟨x, h⟩
      . exact Nat.lt_irrefl _ hb
      . exact Nat.lt_asymm hb (cells x b h)
      . cases h

theorem fn_gen {f : Str} {names : List Str} {body : List Stmt} {a : Addr} {ob : Obj} {fd : FuncData} {Fp : List PV -> Option PV} (F : FnAt prog w hB f names body sc a ob fd) (hs : okScope sc names = true)
    (H : ∀ as p, Fp as = some p -> as.length = names.length /\ ∀ (A : Around) (V : Av) (env : Env) (hE : Heap) (s₁ : Shared), Room k A -> StorL hE sc env -> Live hE hB V sc env (fun y_ => Option.none) (upAll names as fun y_ => Option.none) s₁ ->
      wpAny (model prog w) A (PySem.execs body env) (OutP hB V sc env (fun y_ => Option.none) s₁ (.ret p)) NoE s₁) : FnOk prog w hB (k + 1) f Fp :=
  ⟨a, ob, fd, F.name, F.at_, F.data, fn_genAt F hs H⟩

theorem fn_at {f : Str} {names : List Str} {body : List Stmt} {a : Addr} {ob : Obj} {fd : FuncData} (O : OrcOk prog w hB k o) (F : FnAt prog w hB f names body sc a ob fd) (hs : okScope sc names = true) : FnOkAt prog w hB (k + 1) a (callF o names body sc) := by
  refine fn_genAt F hs fun as p h => ?_
  unfold callF at h
  split at h
  . rename_i hl
    refine ⟨hl, fun A V env hE s R T L => ?_⟩
    cases e : Internal.execs o sc body (upAll names as fun y_ => Option.none) with
    | none => rw [e] at h; cases h
    | some out =>
      rw [e] at h
      cases out with
      | next r => cases h
      | ret q => cases h; exact stmts_ok O body sc _ V hE _ _ s _ _ R T L e
  . cases h
end
end

section
open PySem PySem.W PyProof.Rows

noncomputable abbrev Tree2 := Sem Value × Sem Value
noncomputable def KT (w : World) (t : Sem Value) (k : Int) : Prop := ∀ (A : Around) (E : Value -> Shared -> Prop) (s : Shared) (Q : Value -> Shared -> Prop), (∀ u tk, Q (.int k u) { s with toks := tk }) -> wpAny (model PW w) A t Q E s
noncomputable def VT (w : World) (t : Sem Value) (x : Str) : Prop := ∀ (A : Around) (E : Value -> Shared -> Prop) (s : Shared) (Q : Value -> Shared -> Prop), (∀ u tk, Q (.str x u) { s with toks := tk }) -> wpAny (model PW w) A t Q E s

inductive Trees (w : World) : List Tree2 -> List (Int × Str) -> Prop
  | nil : Trees w [] []
  | cons {t : Tree2} {p : Int × Str} {ts : List Tree2} {ps : List (Int × Str)} : KT w t.1 p.1 -> VT w t.2 p.2 -> Trees w ts ps -> Trees w (t :: ts) (p :: ps)

inductive Vals : List (Int × Value) -> List (Int × Str) -> Prop
  | nil : Vals [] []
  | cons {k : Int} {x : Str} {u : Tok} {vs : List (Int × Value)} {ps : List (Int × Str)} : Vals vs ps -> Vals ((k, .str x u) :: vs) ((k, x) :: ps)

theorem Trees.length {w : World} {ts : List Tree2} {ps : List (Int × Str)} (h : Trees w ts ps) : ts.length = ps.length := by
  induction h with
  | nil => rfl
  | cons _ _ _ ih => simp [ih]
theorem Trees.append {w : World} {ts us : List Tree2} {ps qs : List (Int × Str)} (h : Trees w ts ps) (g : Trees w us qs) : Trees w (ts ++ us) (ps ++ qs) := by
  induction h with
  | nil => exact g
  | cons a b _ ih => exact .cons a b ih
theorem Vals.append {vs us : List (Int × Value)} {ps qs : List (Int × Str)} (h : Vals vs ps) (g : Vals us qs) : Vals (vs ++ us) (ps ++ qs) := by
  induction h with
  | nil => exact g
  | cons _ ih => exact .cons ih
theorem Vals.keys {vs : List (Int × Value)} {ps : List (Int × Str)} (h : Vals vs ps) : vs.map (·.1) = ps.map (·.1) := by
  induction h with
  | nil => rfl
  | cons _ ih => simp [ih]
theorem Vals.length {vs : List (Int × Value)} {ps : List (Int × Str)} (h : Vals vs ps) : vs.length = ps.length := by
  have := congrArg List.length h.keys; simpa using this

section
variable {A : Around} {E : Value -> Shared -> Prop} {w : World} {s : Shared}

theorem stored_fresh {kvs : List (Int × Value)} {k : Int} {v : Value} (h : k ∉ kvs.map (·.1)) : stored kvs k v = kvs ++ [(k, v)] := by
  unfold stored
  rw [if_neg]
  intro q
  obtain ⟨x, hx, e⟩ := List.any_eq_true.mp q
  exact h (List.mem_map.mpr ⟨x, hx, of_decide_eq_true e⟩)

theorem fresh_mid {α : Type} {a b : List α} {x : α} (h : (a ++ x :: b).Nodup) : x ∉ a := fun q => by
  rw [List.nodup_append] at h
  exact h.2.2 x q x List.mem_cons_self rfl

theorem put_long {d : PySem.Addr} : ∀ {ts : List Tree2} {L : List (Int × Str)} {acc : List (Int × Value)} {s : Shared} {Q : PUnit -> Shared -> Prop}, Trees w ts L -> s.heap.DictOf (intKind PW w) d acc -> ((acc.map (·.1)) ++ L.map (·.1)).Nodup ->
    acc.length + L.length <= 1000 -> (∀ h' tk kvs, h'.DictOf (intKind PW w) d (acc ++ kvs) -> Vals kvs L -> Heap.SameBut d s.heap h' -> Q PUnit.unit { s with heap := h', toks := tk }) ->
    wpAny (model PW w) A (forIn ts PUnit.unit fun (x : Tree2) (_ : PUnit) => (do let kv <- x.1; let vv <- holding [kv] x.2; holding [kv, vv] (dictSet d kv vv); pure (ForInStep.yield PUnit.unit) : Sem (ForInStep PUnit))) Q E s := by
  intro ts L acc s Q ht
  induction ht generalizing acc s Q with
  | nil =>
    intro hm _ _ h
    refine wpq (List.forIn_nil) ?_
    refine wpAny_pure ?_
    exact h s.heap s.toks [] (by simpa using hm) .nil (Heap.SameBut.refl _ _)
  | @cons t p ts ps hk hv _ ih =>
    intro hm hn hz h
    rw [List.forIn_cons]
    obtain ⟨k, x⟩ := p
    simp only [List.map_cons] at hn
    have hnew := fresh_mid hn
    have hle : acc.length <= sizeLine := Nat.le_trans (Nat.le_trans (Nat.le_add_right _ _) hz) (by rw [sizeLine_eq]; decide)
    refine wpAny_bind (wpAny_bind (hk A E s _ fun u tk => ?_))
    refine wpAny_bind (wpAny_holding (hv A E _ _ fun u' tk' => ?_))
    refine wpAny_bind (wpAny_holding (wpAny_dictSet_pairs (hsz := hle) (intKind_is PW w k u) hm fun h₁ hm₁ hs₁ => wpAny_pure ?_))
    dsimp only
    rw [stored_fresh hnew] at hm₁
    refine ih hm₁ ?_ ?_ ?_
    . simpa using hn
    . simp only [List.length_cons, List.length_append, List.length_nil] at hz ⊢; lia
    . intro h' tk'' kvs hm' hv' hs'
      exact h h' tk'' ((k, .str x u') :: kvs) (by simpa using hm') (.cons hv') (hs₁.trans hs')

theorem sub_long {ts : List Tree2} {L : List (Int × Str)} {Q : PySem.Addr -> Shared -> Prop} (ht : Trees w ts L) (hn : (L.map (·.1)).Nodup) (hl : ¬ L.length <= 15) (hz : L.length <= 1000)
    (h : ∀ h' tk kvs, h'.DictOf (intKind PW w) s.heap.objs.size kvs -> Vals kvs L -> (∀ b o, s.heap.get? b = some o -> h'.get? b = some o) -> Q s.heap.objs.size { s with heap := h', toks := tk }) :
    wpAny (model PW w) A (subDict ts) Q E s := by
  unfold subDict
  refine wpAny_bind (wpAny_alloc ?_)
  refine wpAny_bind (wpAny_holding ?_)
  refine wpq (if_neg (by rw [ht.length]; exact hl)) ?_
  refine wpAny_bind (wpAny_rule ?_)
  refine wpAny_bind (put_long (w := w) (acc := []) ht (Heap.DictOf.new _) (by simpa using hn) (by simpa using hz) fun h' tk kvs hd hv hs => ?_)
  refine wpAny_pure (wpAny_pure (h h' tk kvs (by simpa using hd) hv fun b o e => ?_))
  exact (hs.2 b (Nat.ne_of_lt (Heap.lt_size e))).trans (Heap.get?_push_of_some _ e)

theorem evals_short : ∀ {ts : List Tree2} {L : List (Int × Str)} {s : Shared} {Q : List (Value × Value) -> Shared -> Prop}, Trees w ts L ->
    (∀ vs tk kvs, Carries (intKind PW w) vs kvs -> Vals kvs L -> Q vs { s with toks := tk }) -> wpAny (model PW w) A (evalPairs ts) Q E s := by
  intro ts L s Q ht
  induction ht generalizing s Q with
  | nil => intro h; exact evalPairs_nil (h [] s.toks [] trivial .nil)
  | @cons t p ts ps hk hv _ ih =>
    intro h
    obtain ⟨t1, t2⟩ := t
    refine evalPairs_cons (hk A E s _ fun u tk => hv A E _ _ fun u' tk' => ih fun vs tk'' kvs hc hvs => ?_)
    exact h _ tk'' ((p.1, .str p.2 u') :: kvs) ⟨intKind_is PW w p.1 u, rfl, hc⟩ (.cons hvs)

theorem sub_short {ts : List Tree2} {L : List (Int × Str)} {Q : PySem.Addr -> Shared -> Prop} (ht : Trees w ts L) (hn : (L.map (·.1)).Nodup) (hl : L.length <= 15)
    (h : ∀ h' tk kvs, h'.DictOf (intKind PW w) s.heap.objs.size kvs -> Vals kvs L -> (∀ b o, s.heap.get? b = some o -> h'.get? b = some o) -> Q s.heap.objs.size { s with heap := h', toks := tk }) :
    wpAny (model PW w) A (subDict ts) Q E s := by
  refine wpAny_subDict (knd := intKind PW w) (by rw [ht.length]; exact hl) (evals_short (w := w) ht fun vs tk kvs hc hv => ⟨kvs, hc, Heap.DictOf.new _, fun h' hd hs => ?_⟩)
  rw [merged_nil_of_nodup kvs (by rw [hv.keys]; exact hn)] at hd
  exact h h' _ kvs hd hv fun b o e => (hs.2 b (Nat.ne_of_lt (Heap.lt_size e))).trans (Heap.get?_push_of_some _ e)

theorem sub_ok {ts : List Tree2} {L : List (Int × Str)} {Q : PySem.Addr -> Shared -> Prop} (ht : Trees w ts L) (hn : (L.map (·.1)).Nodup) (hz : L.length <= 1000)
    (h : ∀ h' tk kvs, h'.DictOf (intKind PW w) s.heap.objs.size kvs -> Vals kvs L -> (∀ b o, s.heap.get? b = some o -> h'.get? b = some o) -> Q s.heap.objs.size { s with heap := h', toks := tk }) :
    wpAny (model PW w) A (subDict ts) Q E s := by
  by_cases hl : L.length <= 15
  . exact sub_short ht hn hl h
  . exact sub_long ht hn hl hz h
end
end

section
open PySem PySem.W PyProof.Rows

section
variable {A : Around} {E : Value -> Shared -> Prop} {w : World} {s : Shared}

noncomputable abbrev IK (w : World) := intKind PW w

theorem put_fresh {d : PySem.Addr} {kvs : List (Int × Value)} {k : Int} {key v : Value} {Q : Unit -> Shared -> Prop} (hkey : (IK w).is k key = true) (hm : s.heap.DictOf (IK w) d kvs) (hf : k ∉ kvs.map (·.1))
    (hQ : ∀ h', h'.DictOf (IK w) d (kvs ++ [(k, v)]) -> Heap.SameBut d s.heap h' -> Q () { s with heap := h' })
    (hsz : kvs.length <= sizeLine) :
    wpAny (model PW w) A (dictPut d ((IK w).hash k) key v) Q E s := by
  refine cps fun U J => ?_
  obtain ⟨o, es, ep, ho, hc, hd, hk, hp, hn⟩ := hm
  refine J ?_; clear J U
  have hes : es.size <= sizeLine := by
    have e1 := hp.length
    have e2 : es.toList.length = es.size := by simp -iota
    exact Nat.le_trans (Nat.le_of_eq (e2.symm.trans e1)) hsz
  unfold dictPut
  refine wpAny_bind (wpAny_dictFind_of hkey ho hd hk ?_)
  have hidx : (es.findIdx? fun e => (IK w).is k e.key) = kvs.findIdx? fun kv => decide (kv.1 = k) := by
    rw [<- hp.findIdx k]; obtain ⟨l⟩ := es; simp -iota
  have hnone : (es.findIdx? fun e => (IK w).is k e.key) = Option.none := by
    rw [hidx, List.findIdx?_eq_none_iff]
    intro x hx
    rw [decide_eq_false_iff_not]
    intro e
    exact hf (List.mem_map.mpr ⟨x, hx, e⟩)
  rw [hnone]
  refine wpAny_updateDictKeys (hz := hes) ho hd (hQ _ ⟨_, _, ep + 1, Heap.get?_update_self _ ho (Obj.isFreed_of_dict (Obj.data_mapDictKeys hd _)),
      hc.mapDictKeys _, Obj.data_mapDictKeys hd _, hk.push hkey _, ?_, ?_⟩ (Heap.SameBut.update ..))
  . have := hp.append hkey ((IK w).hash k) v
    obtain ⟨l⟩ := es
    simpa -iota using this
  . rw [List.map_append, List.nodup_append]
    refine ⟨hn, by simp, ?_⟩
    intro a ha b hb
    simp -iota only [List.map_cons, List.map_nil, List.mem_singleton] at hb
    subst hb
    exact fun e => hf (e ▸ ha)

theorem merge_ok {d o : PySem.Addr} {kvs more : List (Int × Value)} {Q : Unit -> Shared -> Prop} (hdo : d ≠ o) (hoS : (o == sysModules) = false) (h0 : kvs ≠ []) (hd : s.heap.DictOf (IK w) d kvs) (ho : s.heap.DictOf (IK w) o more)
    (hn : ((kvs.map (·.1)) ++ more.map (·.1)).Nodup) (hsz : kvs.length + more.length <= 1000)
    (hQ : ∀ h', h'.DictOf (IK w) d (kvs ++ more) -> Heap.SameBut d s.heap h' -> Q () { s with heap := h' }) :
    wpAny (model PW w) A (mergeMapping d (.ref o) false) Q E s := by
  refine cps fun U J => ?_
  obtain ⟨od, esd, epd, hod, hcd, hdd, hkd, hpd, hnd⟩ := id hd
  obtain ⟨oo, eso, epo, hoo, hco, hdo', hko, hpo, hno⟩ := id ho
  refine J ?_; clear J U
  have hlen : more.length = eso.size := by rw [<- hpo.length]; simp -iota
  have hsl : 1000 <= sizeLine := by rw [sizeLine_eq]; decide
  unfold mergeMapping
  refine wpAny_bind (wpAny_isInstance ho.typeIs isSubtype_dict_dict ?_)
  dsimp only
  refine wpq (if_pos rfl) ?_
  refine wpAny_bind (wpAny_specialOf ho.typeIs F.slot_dict_iter.lookup ?_)
  refine wpAny_bind (wpAny_pure ?_)
  simp -iota only [beq_self_eq_true]
  refine wpq (if_neg (by rw [hoS]; exact Bool.false_ne_true)) ?_
  refine wpAny_bind (wpAny_dictEntries hod hdd ?_)
  have hemp : esd.isEmpty = false := by
    cases h : esd.isEmpty with
    | false => rfl
    | true =>
      have e0 := Array.isEmpty_iff.mp h
      have := hpd.length
      rw [e0] at this
      exact absurd (List.length_eq_zero_iff.mp (by simpa -iota using this.symm)) h0
  rw [hemp]
  simp -iota only [Bool.false_eq_true, if_false]
  refine wpAny_bind (wpAny_dictEntries hoo hdo' ?_)
  refine wpAny_bind (wpAny_dictEpoch hoo hdo' ?_)
  refine wpAny_bind (wpAny_mono (E := E) (wpAny_forIn_list _
    (fun rest y_ s' => ∃ h' i, s' = { s with heap := h' } /\ rest = List.range' i (eso.size - i) /\ i <= eso.size /\ h'.DictOf (IK w) d (kvs ++ more.take i) /\ h'.get? o = some oo /\ Heap.SameBut d s.heap h')
    (fun y_ s' => ∃ h', s' = { s with heap := h' } /\ h'.DictOf (IK w) d (kvs ++ more) /\ Heap.SameBut d s.heap h') ?_ ?_ _ _ ?_) (fun y_ s' q => ?_) fun y_ y_ e => e)
  . rintro x rest b s' ⟨h', i, rfl, hr, hi, hd', hoo', hs'⟩
    have hlt : i < eso.size := by
      rcases Nat.lt_or_ge i eso.size with h | h
      . exact h
      . rw [Nat.sub_eq_zero_of_le h] at hr; simp -iota at hr
    obtain ⟨rfl, hrest⟩ : x = i /\ rest = List.range' (i + 1) (eso.size - (i + 1)) := by
      have e := n_sub hlt
      rw [e, List.range'_succ] at hr
      injection hr with h1 h2
      exact ⟨h1, h2⟩
    refine wpAny_bind (wpAny_dictEntries hoo' hdo' ?_)
    rw [Array.getElem?_eq_getElem hlt]
    obtain ⟨kv, hkv⟩ : ∃ kv, more[x]? = some kv := ⟨more[x]'(by rw [hlen]; exact hlt), List.getElem?_eq_getElem _⟩
    refine cps fun U J => ?_
    obtain ⟨k, v⟩ := kv
    obtain ⟨hkey, hval⟩ := hpo.get? (e := eso[x]) (by simp -iota [hlt]) hkv
    obtain ⟨k', hkey', hhash⟩ := hko eso[x] (Array.getElem_mem hlt)
    refine J ?_; clear J U
    obtain rfl : k' = k := (IK w).inj _ _ _ hkey' hkey
    have hfresh : k' ∉ (kvs ++ more.take x).map (·.1) := by
      have hlt' : x < more.length := by rw [hlen]; exact hlt
      have e : more = more.take x ++ (k', v) :: more.drop (x + 1) := by
        have q := List.getElem?_eq_getElem hlt'
        rw [q] at hkv
        rw [<- Option.some.inj hkv]
        simp -iota
      rw [e] at hn
      simp -iota only [List.map_append, List.map_cons] at hn ⊢
      rw [<- List.append_assoc] at hn
      exact fresh_mid hn
    have htake : more.take (x + 1) = more.take x ++ [(k', v)] := by rw [List.take_add_one, hkv]; rfl
    refine wpAny_bind (wpAny_holding ?_)
    rw [hhash, hval]
    refine put_fresh hkey hd' hfresh (fun h'' hd'' hs'' => ?_) ?_
    . have hoo'' : h''.get? o = some oo := (hs''.2 o (Ne.symm hdo)).trans hoo'
      refine wpAny_bind (wpAny_dictEpoch hoo'' hdo' ?_)
      refine wpq (if_neg (by simp)) ?_
      exact wpAny_pure ⟨h'', x + 1, rfl, hrest, hlt, by rw [htake, <- List.append_assoc]; exact hd'', hoo'', hs'.trans hs''⟩
    . have : (more.take x).length <= more.length := List.length_take_le' _ _
      rw [List.length_append]; exact Nat.le_trans (Nat.add_le_add_left this _) (Nat.le_trans hsz hsl)
  . rintro b s' ⟨h', i, rfl, hr, hi, hd', hoo', hs'⟩
    have hin : i = eso.size := by
      rcases Nat.lt_or_ge i eso.size with h | h
      . have e := n_sub h
        rw [e, List.range'_succ] at hr; exact nomatch hr
      . exact Nat.le_antisymm hi h
    refine ⟨h', rfl, ?_, hs'⟩
    rw [hin, <- hlen, List.take_length] at hd'; exact hd'
  . exact ⟨s.heap, 0, rfl, by simp -iota [List.range_eq_range'], Nat.zero_le _, by simpa -iota using hd, hoo, Heap.SameBut.refl _ _⟩
  . refine cps fun U J => ?_
    obtain ⟨h', rfl, q1, q2⟩ := q
    refine J ?_; clear J U
    exact wpAny_pure (hQ h' q1 q2)
end
end

section
open PySem PySem.W PyProof.Rows

section
variable {A : Around} {E : Value -> Shared -> Prop} {w : World} {s : Shared} {Pl : PySem.Addr}

noncomputable def MainIs (w : World) (Pl : PySem.Addr) (s : Shared) (m : Option PySem.Addr) (done : List (Int × Str)) (s' : Shared) : Prop :=
  ∃ h' tk, s' = { s with heap := h', toks := tk } /\ (∀ b o, s.heap.get? b = some o -> h'.get? b = some o) /\
    ((m = Option.none /\ done = []) \/ ∃ d kvs, m = some d /\ done ≠ [] /\ Pl < d /\ s.heap.get? d = Option.none /\ h'.DictOf (IK w) d kvs /\ Vals kvs done)

theorem size_le_of_keep {h h' : Heap} (k : ∀ b o, h.get? b = some o -> h'.get? b = some o) {a : PySem.Addr} {o : Obj} (e : h.get? a = some o) : a < h'.objs.size := Heap.lt_size (k a o e)

theorem chunk {d : PySem.Addr} {s' : Shared} {done cur : List (Int × Str)} {run : List Tree2} {Q : PySem.Addr -> Shared -> Prop} (hM : MainIs w Pl s (some d) done s') (hcur : Trees w run cur)
    (hn : ((done ++ cur).map (·.1)).Nodup) (hz : (done ++ cur).length <= 1000) (hsm : sysModules < Pl)
    (h : ∀ sub s1, (∀ E' : Value -> Shared -> Prop, wpAny (model PW w) A (mergeMapping d (.ref sub) false) (fun y_ s2 => MainIs w Pl s (some d) (done ++ cur) s2) E' s1) -> Q sub s1) :
    wpAny (model PW w) A (subDict run) Q E s' := by
  refine cps fun U J => ?_
  obtain ⟨h1, tk1, rfl, k1, hm⟩ := hM
  refine J ?_; clear J U
  rcases hm with ⟨hm, _⟩ | ⟨d', kvs, hd, hne, hd0, hd1, hdict, hv⟩
  . cases hm
  cases hd
  rw [List.map_append] at hn
  rw [List.length_append] at hz
  refine sub_ok hcur ((List.nodup_append.mp hn).2.1) (by lia) fun h2 tk2 more hd2 hv2 k2 => h _ _ fun E' => ?_
  refine cps fun U J => ?_
  obtain ⟨od, _, _, hod, _⟩ := id hdict
  refine J ?_; clear J U
  have hlt : d < h1.objs.size := Heap.lt_size hod
  refine merge_ok (w := w) (Nat.ne_of_lt hlt) ?_ ?_ (hdict.keep k2) hd2 ?_ ?_ fun h3 hd3 hs3 => ?_
  . simp only [beq_eq_false_iff_ne, ne_eq]
    exact Nat.ne_of_gt (Nat.lt_trans hsm (Nat.lt_trans hd0 hlt))
  . rintro rfl
    cases hv
    exact hne rfl
  . rw [hv.keys, hv2.keys]; exact hn
  . rw [hv.length, hv2.length]; exact hz
  . refine ⟨h3, tk2, rfl, fun b o e => ?_, .inr ⟨d, kvs ++ more, rfl, fun q => hne (List.append_eq_nil_iff.mp q).1, hd0, hd1, hd3, hv.append hv2⟩⟩
    exact (hs3.2 b (fun q => by rw [q, hd1] at e; cases e)).trans (k2 b o (k1 b o e))

theorem chunk0 {s' : Shared} {cur : List (Int × Str)} {run : List Tree2} {Q : PySem.Addr -> Shared -> Prop} {done : List (Int × Str)} (hM : MainIs w Pl s Option.none done s') (hcur : Trees w run cur)
    (hn : (cur.map (·.1)).Nodup) (hz : cur.length <= 1000) (h0 : cur ≠ []) (hPl : ∀ {h' : Heap}, (∀ b o, s.heap.get? b = some o -> h'.get? b = some o) -> Pl < h'.objs.size)
    (h : ∀ d s1, MainIs w Pl s (some d) (done ++ cur) s1 -> Q d s1) :
    wpAny (model PW w) A (subDict run) Q E s' := by
  refine cps fun U J => ?_
  obtain ⟨h1, tk1, rfl, k1, hm⟩ := hM
  refine J ?_; clear J U
  rcases hm with ⟨_, rfl⟩ | ⟨d', kvs, hd, _⟩
  . refine sub_ok hcur hn hz fun h2 tk2 more hd2 hv2 k2 => h _ _ ⟨h2, tk2, rfl, fun b o e => k2 b o (k1 b o e), .inr ⟨_, more, rfl, h0, hPl k1, ?_, hd2, hv2⟩⟩
    cases e : s.heap.get? h1.objs.size with
    | none => rfl
    | some o => exact absurd (Heap.lt_size (k1 _ _ e)) (Nat.lt_irrefl _)
  . cases hd

theorem disp_ok {items : List Tree2} {L : List (Int × Str)} {Q : Value -> Shared -> Prop} (ht : Trees w items L) (hn : (L.map (·.1)).Nodup) (hz : L.length <= 1000) (h0 : L ≠ [])
    (hsm : sysModules < Pl) (hPl : ∀ {h' : Heap}, (∀ b o, s.heap.get? b = some o -> h'.get? b = some o) -> Pl < h'.objs.size)
    (h : ∀ a h' tk kvs, Pl < a -> h'.DictOf (IK w) a kvs -> Vals kvs L -> (∀ b o, s.heap.get? b = some o -> h'.get? b = some o) -> Q (.ref a) { s with heap := h', toks := tk }) :
    wpAny (model PW w) A (dictDisplay (items.map fun p => (some p.1, p.2))) Q E s := by
  unfold dictDisplay
  refine wpAny_bind (wpAny_mono (E := E) (wpAny_forIn_list _
    (fun rest b s' => ∃ ts Lr done cur, rest = ts.map (fun (p : Tree2) => (some p.1, p.2)) /\ Trees w ts Lr /\ Trees w b.2 cur /\ L = done ++ (cur ++ Lr) /\ cur.length < 17 /\ MainIs w Pl s b.1 done s')
    (fun b s' => ∃ done cur, Trees w b.2 cur /\ L = done ++ cur /\ MainIs w Pl s b.1 done s') ?turn ?fin _ _ ?start) (fun b s' q => ?_) fun y_ y_ e => e)
  case turn =>
    rintro x rest ⟨main, run⟩ s' ⟨ts, Lr, done, cur, hr, hts, hcur, hL, hc, hM⟩
    cases hts with
    | nil => cases hr
    | @cons t p ts ps hk hv hts =>
      simp only [List.map_cons, List.cons.injEq] at hr
      obtain ⟨rfl, rfl⟩ := hr
      have hcur' : Trees w (run ++ [(t.1, t.2)]) (cur ++ [p]) := hcur.append (.cons hk hv .nil)
      have hL' : L = done ++ ((cur ++ [p]) ++ ps) := by rw [hL]; simp
      have hn' : ((done ++ (cur ++ [p])).map (·.1)).Nodup := by
        rw [hL', <- List.append_assoc, List.map_append] at hn
        exact (List.nodup_append.mp hn).1
      have hz' : (done ++ (cur ++ [p])).length <= 1000 := by
        rw [hL'] at hz
        simp only [List.length_append, List.length_cons, List.length_nil] at hz ⊢
        lia
      dsimp only
      split
      . rename_i h17
        refine wpAny_bind ?_
        have hemp : (run ++ [(t.1, t.2)]).isEmpty = false := by simp
        rw [if_neg (by rw [hemp]; exact Bool.false_ne_true)]
        cases main with
        | none =>
          refine wpAny_bind (chunk0 hM hcur' ?_ ?_ (by simp) hPl fun d s1 hM' => wpAny_pure (wpAny_pure ?_))
          . rw [List.map_append] at hn'; exact (List.nodup_append.mp hn').2.1
          . rw [List.length_append] at hz'; lia
          . exact ⟨ts, ps, done ++ (cur ++ [p]), [], rfl, hts, .nil, by rw [hL']; simp, by decide, hM'⟩
        | some d =>
          refine wpAny_bind (wpAny_holding (chunk hM hcur' hn' hz' hsm fun sub s1 hmg => ?_))
          refine wpAny_bind (wpAny_onRaise (wpAny_holding (wpAny_mono (hmg _) (fun y_ s2 hM' => wpAny_pure (wpAny_pure ?_)) fun y_ y_ e => e)))
          exact ⟨ts, ps, done ++ (cur ++ [p]), [], rfl, hts, .nil, by rw [hL']; simp, by decide, hM'⟩
      . rename_i h17
        refine wpAny_pure ⟨ts, ps, done, cur ++ [p], rfl, hts, hcur', hL', ?_, hM⟩
        have e := hcur'.length
        have h17' : (run ++ [(t.1, t.2)]).length ≠ 17 := by simpa using h17
        rw [e] at h17'
        simp only [List.length_append, List.length_cons, List.length_nil] at h17' ⊢
        lia
  case fin =>
    rintro ⟨main, run⟩ s' ⟨ts, Lr, done, cur, hr, hts, hcur, hL, hc, hM⟩
    cases hts with
    | cons => cases hr
    | nil => exact ⟨done, cur, hcur, by rw [hL]; simp, hM⟩
  case start =>
    exact ⟨items, L, [], [], rfl, ht, .nil, rfl, by decide, s.heap, s.toks, rfl, fun y_ y_ e => e, .inl ⟨rfl, rfl⟩⟩
  . obtain ⟨main, run⟩ := b
    obtain ⟨done, cur, hcur, hL, hM⟩ := q
    have fin : ∀ d s2, MainIs w Pl s (some d) L s2 -> Q (.ref d) s2 := by
      rintro d s2 ⟨h', tk, rfl, k, hm⟩
      rcases hm with ⟨hm, _⟩ | ⟨d', kvs, hd, _, hd0, _, hdict, hv⟩
      . cases hm
      . cases hd; exact h d h' tk kvs hd0 hdict hv k
    dsimp only
    by_cases hrun : run = []
    . subst hrun
      have : cur = [] := List.length_eq_zero_iff.mp hcur.length.symm
      subst this
      rw [List.append_nil] at hL
      subst hL
      refine wpAny_bind ?_
      simp only [List.isEmpty_nil, if_true]
      refine wpAny_pure ?_
      cases main with
      | none =>
        obtain ⟨h', tk, rfl, k, hm⟩ := hM
        rcases hm with ⟨_, hm⟩ | ⟨d', kvs, hd, _⟩
        . exact absurd hm h0
        . cases hd
      | some d => exact wpAny_pure (fin d s' hM)
    . refine wpAny_bind ?_
      have hemp : run.isEmpty = false := by cases run with | nil => exact absurd rfl hrun | cons _ _ => rfl
      rw [if_neg (by rw [hemp]; exact Bool.false_ne_true)]
      have hn' : ((done ++ cur).map (·.1)).Nodup := by rw [<- hL]; exact hn
      have hz' : (done ++ cur).length <= 1000 := by rw [<- hL]; exact hz
      cases main with
      | none =>
        refine wpAny_bind (chunk0 hM hcur ?_ ?_ ?_ hPl fun d s1 hM' => wpAny_pure (wpAny_pure (fin d s1 (hL ▸ hM'))))
        . rw [List.map_append] at hn'; exact (List.nodup_append.mp hn').2.1
        . rw [List.length_append] at hz'; lia
        . intro q; rw [q] at hcur; exact hrun (List.length_eq_zero_iff.mp hcur.length)
      | some d =>
        refine wpAny_bind (wpAny_holding (chunk hM hcur hn' hz' hsm fun sub s1 hmg => ?_))
        exact wpAny_bind (wpAny_onRaise (wpAny_holding (wpAny_mono (hmg _) (fun y_ s2 hM' => wpAny_pure (wpAny_pure (fin d s2 (hL ▸ hM')))) fun y_ y_ e => e)))
end
end

section
open PySem PySem.W PyProof.Rows

noncomputable def keyC : Option Expr -> Option Int
  | some (.Constant (.int i) _ _) => some i
  | _ => Option.none
noncomputable def strC : Expr -> Option Str
  | .Constant (.str x) _ _ => some x
  | _ => Option.none
theorem keyC_is {k : Option Expr} {i : Int} (h : keyC k = some i) : ∃ a b, k = some (.Constant (.int i) a b) := by
  cases k with
  | none => cases h
  | some e =>
    cases e with
    | Constant l a b =>
      cases l with
      | int j => cases h; exact ⟨_, _, rfl⟩
      | _ => cases h
    | _ => cases h
theorem strC_is {v : Expr} {x : Str} (h : strC v = some x) : ∃ a b, v = .Constant (.str x) a b := by
  cases v with
  | Constant l a b =>
    cases l with
    | str j => cases h; exact ⟨_, _, rfl⟩
    | _ => cases h
  | _ => cases h
noncomputable def pairsC : List (Option Expr) -> List Expr -> List (Int × Str)
  | k :: ks, v :: vs => (match keyC k, strC v with
    | some i, some x => (i, x) :: pairsC ks vs
    | _, _ => [])
  | _, _ => []
noncomputable def allC : List (Option Expr) -> List Expr -> Bool
  | [], [] => true
  | k :: ks, v :: vs => (keyC k).isSome && (strC v).isSome && allC ks vs
  | _, _ => false
noncomputable def upC : List Int -> Bool
  | a :: b :: l => decide (a < b) && upC (b :: l)
  | _ => true
theorem upC_c {a b : Int} {l : List Int} : upC (a :: b :: l) = (decide (a < b) && upC (b :: l)) := rfl
theorem upC_lt : ∀ {l : List Int} {a : Int}, upC (a :: l) = true -> ∀ b ∈ l, a < b
  | [], _, _, b, h => by cases h
  | c :: l, a, h, b, hb => by
    simp only [upC_c, Bool.and_eq_true, decide_eq_true_eq] at h
    rcases List.mem_cons.mp hb with rfl | hb
    . exact h.1
    . exact Int.lt_trans h.1 (upC_lt h.2 b hb)
theorem upC_nodup : ∀ {l : List Int}, upC l = true -> l.Nodup
  | [], _ => List.nodup_nil
  | a :: l, h => by
    refine List.nodup_cons.mpr ⟨fun q => Int.lt_irrefl a (upC_lt h a q), upC_nodup ?_⟩
    cases l with
    | nil => rfl
    | cons b l => simp only [upC_c, Bool.and_eq_true] at h; exact h.2

section
variable {A : Around} {E : Value -> Shared -> Prop} {w : World} {s : Shared} {env : Env}
theorem allC_all : ∀ (ks : List (Option Expr)) (vs : List Expr), allC ks vs = true -> ks.all (·.isSome) = true /\ ks.length = vs.length
  | [], [], _ => ⟨rfl, rfl⟩
  | [], _ :: _, h => by cases h
  | _ :: _, [], h => by cases h
  | k :: ks, v :: vs, h => by
    have h : ((keyC k).isSome && (strC v).isSome && allC ks vs) = true := h
    rw [Bool.and_eq_true, Bool.and_eq_true] at h
    obtain ⟨i, hi⟩ := Option.isSome_iff_exists.mp h.1.1
    obtain ⟨_, _, rfl⟩ := keyC_is hi
    obtain ⟨a, b⟩ := allC_all ks vs h.2
    exact ⟨a, congrArg (· + 1) b⟩
theorem treesC {pos : Pos} : ∀ (ks : List (Option Expr)) (vs : List Expr), allC ks vs = true -> Trees w (pairTrees ks vs env pos) (pairsC ks vs)
  | [], [], _ => .nil
  | [], _ :: _, h => by cases h
  | _ :: _, [], h => by cases h
  | k :: ks, v :: vs, h => by
    have h : ((keyC k).isSome && (strC v).isSome && allC ks vs) = true := h
    rw [Bool.and_eq_true, Bool.and_eq_true] at h
    obtain ⟨i, hi⟩ := Option.isSome_iff_exists.mp h.1.1
    obtain ⟨x, hx⟩ := Option.isSome_iff_exists.mp h.1.2
    have ih := treesC (pos := pos) ks vs h.2
    obtain ⟨k1, p1, rfl⟩ := keyC_is hi
    obtain ⟨k2, p2, rfl⟩ := strC_is hx
    refine Trees.cons ?_ ?_ ih
    . intro A E s Q h
      show wpAny _ _ (eval (.Constant (.int i) k1 p1) env) Q E s
      exact wpAny_Constant_int (h _ _)
    . intro A E s Q h
      exact wpAny_bind (wpAny_Constant_str (wpAny_bind (wpAny_standAt (wpAny_pure (h _ _)))))

noncomputable def dictP : Expr -> List (Option Expr) × List Expr × Pos
  | .Dict ks vs p => (ks, vs, p)
  | _ => ([], [], default)
noncomputable def b3L : List (Int × Str) := pairsC (dictP (av 13)).1 (dictP (av 13)).2.1
noncomputable def B3 (w : World) (Pl : PySem.Addr) : Heap -> Value -> Prop := fun h v => ∃ a kvs, v = .ref a /\ Pl < a /\ sysModules < Pl /\ mainGlobals < Pl /\ h.DictOf (IK w) a kvs /\ Vals kvs b3L
theorem b3_still (w : World) (Pl : PySem.Addr) : Holds1 Pl (B3 w Pl) := by
  rintro h h' v k ⟨a, kvs, rfl, n1, n2, n3, ⟨o, es, ep, e, r⟩, hv⟩
  exact ⟨a, kvs, rfl, n1, n2, n3, ⟨o, es, ep, k _ _ (Nat.ne_of_gt n1) (Nat.ne_of_gt (Nat.lt_trans n3 n1)) e, r⟩, hv⟩

theorem av13_dict : av 13 = .Dict (dictP (av 13)).1 (dictP (av 13)).2.1 (dictP (av 13)).2.2 := by rfl
theorem av13_all : allC (dictP (av 13)).1 (dictP (av 13)).2.1 = true := by decide +kernel
theorem b3L_up : upC (b3L.map (·.1)) = true := by decide +kernel
theorem b3L_len : b3L.length = 650 := by decide +kernel

theorem val13g {w : World} {c Fr Pl : PySem.Addr} {e : Expr} {ks : List (Option Expr)} {vs : List Expr} {p : Pos} {L : List (Int × Str)} {P : Heap -> Value -> Prop} (he : e = .Dict ks vs p) (hc : allC ks vs = true) (hL : L = pairsC ks vs) (hu : upC (L.map (·.1)) = true) (hl : L.length = 650)
    (hP : ∀ h v, (∃ a kvs, v = .ref a /\ Pl < a /\ sysModules < Pl /\ mainGlobals < Pl /\ h.DictOf (IK w) a kvs /\ Vals kvs L) -> P h v) : TopVal w c Fr Pl e P := by
  unfold TopVal
  intro A E s mg ps Q' hm _ _ _ _ _ hQ
  rw [he]
  have hall := allC_all _ _ hc
  rw [arm_eval_Dict, zip_pairTrees _ _ _ _ hall.1 hall.2]
  refine wpAny_bind (wpAny_standAt ?_)
  have hlow := hm.low
  have ht := treesC (w := w) (env := mainEnv PW c Fr) (pos := p) _ _ hc
  rw [<- hL] at ht
  refine disp_ok (w := w) (Pl := Pl) ht (upC_nodup hu) (by rw [hl]; decide) (fun q => by rw [q] at hl; cases hl) (Nat.lt_of_le_of_lt (by decide) hlow.2) (fun k => ?_) fun a h' tk kvs ha hd hv k => ?_
  . exact (hm.code.keeps k).lt.2
  . exact hQ _ h' tk k (hP _ _ ⟨a, kvs, rfl, ha, Nat.lt_of_le_of_lt (by decide) hlow.2, hlow.2, hd, hv⟩)
theorem b3L_eq : b3L = pairsC (dictP (av 13)).1 (dictP (av 13)).2.1 := by unfold b3L; rfl
theorem val13 (w : World) (c Fr Pl : PySem.Addr) : TopVal w c Fr Pl (av 13) (B3 w Pl) := val13g av13_dict av13_all b3L_eq b3L_up b3L_len fun h v q => q
end
end

section
open PySem PySem.W PyProof.Rows

structure TopIs (w : World) (hB : Heap) (mg mb : Str -> Option Value) (Pl : PySem.Addr) : Prop where
  g : hB.Ns mainGlobals mg
  b : hB.Ns builtinsNs mb
  bu : ∀ x : Str, x ≠ "__name__" -> mb x = bootBuiltins x
  lim : hB.NoLimit
  held : ∀ p ∈ FF Pl (B1 w Pl) (B3 w Pl), ∃ v, mg p.1 = some v /\ p.2 hB v
  free : ∀ x : Str, x ∉ (FF Pl (B1 w Pl) (B3 w Pl)).map (·.1) -> x ≠ "__name__" -> x ∉ bootMainNames -> mg x = Option.none

noncomputable def LawOk : Prop := ∀ (w : World) (hB : Heap) (mg mb : Str -> Option Value) (Pl : PySem.Addr), TopIs w hB mg mb Pl ->
  ∃ F k a, k <= 200 /\ mg "law" = some (.ref a) /\ FnOkAt PW w hB k a F /\ ∀ script : List Int, script.length <= 63 -> F [.lst (script.map .int)] = some (.bool true)

noncomputable abbrev RWW : OpenLaw := PySem.Challenge.rw_rs0211_01
noncomputable abbrev RR : RowW := RWW.row.toRowW

theorem ints_of {R : WRecords} : ∀ {xs : List WData}, WShape.hasItems R xs .int = true -> ∃ ns : List Int, xs = ns.map .int
  | [], _ => ⟨[], rfl⟩
  | x :: xs, h => by
    simp only [WShape.hasItems, Bool.and_eq_true] at h
    obtain ⟨ns, rfl⟩ := ints_of h.2
    cases x with
    | int i => exact ⟨i :: ns, rfl⟩
    | _ => exact Bool.noConfusion (show (false : Bool) = true from h.1)

theorem rdL_of_well {P : Params} {h : Heap} : ∀ {ns : List Int} {vs : List Value}, WellAll P h vs (ns.map .int) -> RdL h (fun y_ => False) (ns.map .int) vs
  | [], _, x => by cases x; exact RdL.nil
  | n :: ns, _, x => by
    cases x with
    | cons a b =>
      cases a
      exact RdL.cons rd_int (rdL_of_well b)

set_option tactic.hygienic true in
theorem law_run (H : LawOk) {w : World} {hB : Heap} {mg mb : Str -> Option Value} {Pl : PySem.Addr} (T : TopIs w hB mg mb Pl) {s₁ : Shared} {vs : List Value} {args : List WData} (hpre : RR.claim.pre args = true) (hw : WellAll w.params s₁.heap vs args)
    (hk : ∀ b o, hB.get? b = some o -> s₁.heap.get? b = some o) (hg : s₁.gens = #[]) {s₀ : Shared} : ∃ f, mg "law" = some f /\
      wpAny (model PW w) callerA (PySem.call f vs) (fun v s' => GoodWG RR.claim (classAt s₀.heap) (ExcName.means s₀.heap) args s₁ (.ok (.ret v)) s') NoE s₁ := by
  obtain ⟨hs, hp⟩ := pre_splitW hpre
  obtain ⟨d, r, rfl, hd, hr⟩ := hasAllW_cons hs
  obtain rfl := hasAllW_nil hr
  obtain ⟨xs, rfl, hi⟩ := hasW_list hd
  obtain ⟨ns, rfl⟩ := ints_of hi
  have hlen : ns.length <= 63 := by
    have hp' : (RWW.pre).holds [] { args := [.list (ns.map .int)] } = true := hp
    have e : RWW.pre = .and (.not (.lt (.lit (.int 63)) (.len (.arg 0)))) (.lit (.bool true)) := by rfl
    rw [e] at hp'
    have q := condW_of hp' (w_and (w_not (w_lt w_lit (w_len_list (w_arg rfl)))) w_lit)
    rw [List.length_map, Bool.and_true, Bool.not_eq_true', decide_eq_false_iff_not] at q
    omega
  cases hw with
  | cons a b =>
    cases b
    cases a with
    | list e1 w1 =>
      rename_i l us
      obtain ⟨F, k, fa, hk2, hmg, hF, hlaw⟩ := H w hB mg mb Pl T
      refine ⟨_, hmg, ?_⟩
      have hrd : RdL s₁.heap (fun y_ => False) [.lst (ns.map .int)] [.ref l] := by
        refine RdL.cons ?_ RdL.nil
        exact Exists.intro (l) ⟨us.toArray, rfl, ⟨fun x => x, _, e1, rfl⟩, ⟨_, e1, rfl, _, rfl⟩, by simpa using rdL_of_well w1⟩
      refine wpAny_mono (hF _ _ (hlaw ns hlen) callerA (fun y_ => False) s₁ _ ⟨rfl, ?_, ?_⟩ hk (fun y_ x => x.elim) (fun y_ x => x.elim) (by rw [hg]; exact .empty) hrd) (fun v s' q => ?_) fun y_ y_ e => e.elim
      . show 1 + claimMargin + k < 900; unfold claimMargin; omega
      . show 4 + 10 * k < 8000; omega
      . obtain ⟨e, rv⟩ := q
        cases (show v = .bool true from rv)
        refine ⟨.inl ⟨_, .bool true, [], rfl, fun cls => rfl, .bool true, ?_, fun y_ => ⟨List.nodup_nil, fun a h => by cases h⟩⟩, .of_keep e.heap, e.os, e.gens (by rw [hg]; exact .empty)⟩
        show (WShape.has [] (.bool true) .bool && (WTm.eq .res (.lit (.bool true))).holds [] { args := [.list (ns.map .int)], res := some (.bool true), after := [.list (ns.map .int)] }) = true
        exact (congrArg (true && ·) (holdsW_of_value (w_eq_bool (w_res rfl) w_lit))).trans rfl

theorem pw_bare : PW.bare := ⟨rfl, rfl, rfl, rfl, rfl, by decide +kernel⟩
theorem pw_opens : opensWell PW = true := by decide +kernel
theorem rr_ident (a b : List Whence) : RR.claim.ident a b = true := ident_freeW (r := RR) rfl rfl rfl a b
theorem rr_witness : ∃ args, RR.claim.pre args = true /\ WData.layableAll args = true := ⟨[.list []], by decide +kernel, by decide +kernel⟩
theorem rr_promised : RR.promised := ⟨[.list []], by decide +kernel, by decide +kernel⟩
theorem pw_body : (opening PW).main.body = [] := by rfl
theorem pw_more : (opening PW).main.more = [] := by rfl
theorem pw_fence (s : Shared) : fenceModules? PW s = some s := by rfl
theorem rr_prog : RR.claim.prog = PW := rfl
theorem rr_recs : RR.claim.records = [] := rfl
theorem law_name : RWW.row.name = "law" := rfl

theorem law_def {Pl : PySem.Addr} {h : Heap} {mg : Str -> Option Value} {v : Value} (hg : h.Ns mainGlobals mg) (hv : mg "law" = some v) (hf : FnV Pl (fd 26).name (fd 26).params (fd 26).body (fd 26).scope h v) : isTheDefsW PW h "law" := by
  obtain ⟨a, pm, c', rfl, _, _, _, _, e, _⟩ := hf
  refine ⟨a, _, _, (fd 26).params, (fd 26).body, (fd 26).scope, (PySem.Claim2Try.globalOf_of_ns hg _).trans hv, e, rfl, by rfl, by rfl, by rfl, rfl, rfl, rfl, rfl, rfl, rfl, .inl ⟨by rfl, rfl⟩, [], by rfl, .inl ⟨rfl, rfl⟩⟩

theorem top_is {w : World} {s₀ s₁ : Shared} {mb mg₀ : Str -> Option Value} {c0 P0 : PySem.Addr} (hB : BootLeft9 (opening PW) s₀.heap mb mg₀ c0 P0) (hTop : Top1 s₀.heap mg₀ (B1 w) (B3 w) s₀ s₁) : ∃ mg Pl, TopIs w s₁.heap mg mb Pl := by
  obtain ⟨c, Pl, mg', ps, h₁, k1, hP, X⟩ := hTop.top
  have keep : ∀ b o, b ≠ mainGlobals -> s₀.heap.get? b = some o -> s₁.heap.get? b = some o := fun b o n e => X.keep b o (Nat.ne_of_lt (Nat.lt_of_lt_of_le (Heap.lt_size e) hP)) n (k1 b o e)
  refine ⟨mg', Pl, X.main.g, hB.b.at fun o e => keep _ o (by decide) e, hB.builtins, ⟨_, hB.statics.at fun o e => keep _ o (by decide) e, rfl⟩, X.held, fun x h1 h2 h3 => ?_⟩
  rw [X.others x h1 h2]; exact hB.others x h3

theorem law_call (H : LawOk) {w : World} {s₀ s₁ : Shared} {mg mb : Str -> Option Value} {Pl : PySem.Addr} (T : TopIs w s₁.heap mg mb Pl) (hT : TopRan PW w s₀ s₁) (hz1 : s₁.asleep) (hg1 : s₁.gens = #[]) {free : PySem.Addr -> Prop} {gens : Prop} :
    RR.claim.CallFrom (callStub "law") w free gens (fun h' => RWW.row.writes = true -> namesKept RR.claim.prog RWW.row.keeps s₁.heap h' /\ ∀ x ∈ RR.claim.records, ∀ a, classAt s₁.heap x.1 = some a -> recordClass h' a x.1 (x.2.map (·.1)) = true) s₁ := by
  refine ClaimW.callFrom_of_specG (c := RR.claim) (tree := fun vs => do match <- nsGet mainNs "law" with
      | some f => do ret (<- PySem.call f vs)
      | none => unsupported "claim.caller:no-such-global") hz1 hg1 fun args hpre hlay ord hord => ?_
  have hcl : ∀ c, (WRecords.fields? RR.claim.records c).isSome = true -> (classAt s₁.heap c).isSome = true := fun c h => by cases h
  obtain ⟨⟨vs, s₂⟩, hlaid⟩ := Option.isSome_iff_exists.mp (layAllW_isSome (R := RR.claim.records) (cl := classAt s₁.heap) (P := w.params) (ord := ord) hcl args RR.args s₁ (pre_splitW hpre).1)
  have keeps := layAllW_keeps _ _ _ hlaid
  have hal := layAllW_rest _ _ _ hlaid
  obtain ⟨as, hrd, hin, hold⟩ := reads_layAllW hord _ _ _ hlaid hlay s₂.heap (fun y_ y_ e => e)
  have L : PySem.W.Laid RR.claim.records w s₁ s₂ args vs as := ⟨⟨ord, hord, hlaid⟩, hrd, hin, hold, keeps, hal.1.trans hg1, hal.2.2.1⟩
  have hw := well_layAllW hord args s₁ _ hlaid _ fun y_ y_ e => e
  obtain ⟨f, hf, h⟩ := law_run H T (s₁ := s₂) (s₀ := s₁) hpre hw keeps L.gens
  refine ⟨vs, s₂, hlaid, wpAny_bind (wpAny_nsGet (T.g.keeps keeps) ?_)⟩
  rw [hf]
  refine wpAny_bind (wpAny_mono h (fun v s' g => wpAny_pure ⟨_, rfl, ?_⟩) fun y_ y_ e => e.elim)
  have z := g.laid (c := RR.claim) rfl rfl rr_ident L
  exact ⟨z.1, z.2.1, z.2.2, fun q => by cases q⟩

theorem law_said : OpenLaw.wellSaid PySem.Challenge.rw_rs0211_01 = true := by decide +kernel
theorem rw_holds (H : LawOk) : PySem.Challenge.rw_rs0211_01.Holds := by
  refine holds_law law_said fun said => ?_
  refine ⟨said, rr_promised, ⟨pw_bare, pw_opens, rfl⟩, rr_witness, fun w => ?_⟩
  . obtain ⟨hex, hall⟩ := boot_left (q := opening PW) pw_body pw_more w
    refine ⟨hex, fun s₀ hs => ?_⟩
    obtain ⟨mb, mg₀, c0, P0, hB, hg0⟩ := hall s₀ hs
    obtain ⟨s₁, hT, hTop, hg1, hz1⟩ := top_ran (w := w) (B1 := B1 w) (B3 := B3 w) hB hg0 (AfterImport.life hs) (b1_still w) (b3_still w) (fun c Fr Pl => val11 w c Fr Pl) (fun c Fr Pl => val13 w c Fr Pl)
    obtain ⟨mg, Pl, T⟩ := top_is hB hTop
    refine ⟨s₀, pw_fence s₀, hg0, s₁, hT, fun n hn => ?_, fun x hx => (nomatch hx), fun x hx => (nomatch hx), law_call H T hT hz1 hg1⟩
    obtain ⟨v, hv, hfn⟩ := T.held (fnE Pl 26) (List.mem_cons_self ..)
    have hl26 : (fnE Pl 26).1 = ("law" : Str) := by rfl
    rw [hl26] at hv
    obtain rfl : n = "law" := List.mem_singleton.mp (show n ∈ [("law" : Str)] from hn)
    exact law_def T.g hv hfn
end

section
set_option maxRecDepth 10000
open PySem PyProof.Rows

section
variable {prog : Program} {w : World} {A : Around} {s s₁ s' s'' : Shared} {hB hE : Heap} {B : Av} {sc gsc : Scope} {env : Env} {W W' W'' : Own} {r r' : Internal.Loc} {o : Orc} {k : Nat}

structure GText (gbody : List Stmt) (gsc : Scope) : Prop where
  body : ∃ (te te2 tc : Expr) (ty : List Expr) (tp tp2 ip yp1 yp2 yp3 p1 p2 a1 a2 a3 a4 a5 a6 f1 f2 f3 f4 i1 : Pos) (kt kt2 ka kb : Nat) (b1 b2 b3 : List Stmt),
    (∃ p, te = .Name "escape" p) /\ (∃ p, te2 = .Name "escape" p) /\ (∃ p1 p2 p3 k, tc = .Compare (.Name "ch" p1) [.Eq] [.Constant (.str "\\") k p2] p3) /\ (∃ p1 p2, ty = [.Name "pos" p1, .Name "ch" p2]) /\
    gbody = [.Assign [.Name "pos" a1] (.Constant (.int 0) ka a2) a3, .Assign [.Name "escape" a4] (.Constant (.bool false) kb a5) a6,
      .For (.Tuple [.Name "pos" tp, .Name "ch" tp2] kt ip) (.Call (.Name "enumerate" f1) [.Name "addr" f2] [] f3) [.If te b1 [.If tc b2 [.Expr (.Yield (some (.Tuple ty kt2 yp1)) yp2) yp3] p1] p2] [] f4, .If te2 b3 [] i1]
  kind : gsc.kind = .function
  gen : gsc.isGenerator = true
  co : gsc.isCoroutine = false
  cells : ∀ x ∈ gsc.names, x.2 ≠ .cell
  kE : kd gsc "escape" = some .local
  kP : kd gsc "pos" = some .local
  kC : kd gsc "ch" = some .local
  kA : kd gsc "addr" = some .local
  kN : kd gsc "enumerate" = some .globalImplicit

theorem paren_for {ga : Addr} {gob : Obj} {gfd : FuncData} {gbody : List Stmt} (G : FnAt prog w hB "_iter_escaped_chars" ["addr"] gbody gsc ga gob gfd) (X : GText gbody gsc) (hen : GName prog w hB "enumerate" (.type "enumerate"))
    (P : PEnv env) (V : Envs env) (kG : env.kindOf "_iter_escaped_chars" = some .globalImplicit) (kA : env.kindOf "addr" = some .local) (R : Room k A) {T : Str} {t u : Tok} {m : Str -> Option Value} (hns : s.heap.Ns env.locals m) (hma : m "addr" = some (.str T t)) (hmo : m "opens" = some (.int 0 u))
    (hT : ∀ (i c : Nat), T.cps[i]? = some c -> c ≠ 92) (hB0 : ∀ b o, hB.get? b = some o -> s.heap.get? b = some o) (hBL : hB.get? env.locals = Option.none) (bare : AllBare s.gens)
    {Q : Flow -> Shared -> Prop} (hQ : ∀ f s', PEnd env.locals s (pgo 0 T.cps.toList) f s' -> Q f s')
    {tp tp2 ip c1 c2 c3 c4 p1 p2 p3 p4 p5 p6 p7 p8 p9 q1 q2 q3 q4 q5 q6 q7 q8 q9 q10 q11 : Pos} {kt k1 k2 k3 k4 k5 k6 : Nat} :
    wpAny (model prog w) A (PySem.exec (.For (.Tuple [.Name "pos" tp, .Name "ch" tp2] kt ip) (.Call (.Name "_iter_escaped_chars" c1) [.Name "addr" c2] [] c3) [.If (.Compare (.Name "ch" p1) [.Eq] [.Constant (.str "(") k1 p2] p3) [.AugAssign (.Name "opens" p4) .Add (.Constant (.int 1) k2 p5) p6]
      [.If (.Compare (.Name "ch" p7) [.Eq] [.Constant (.str ")") k3 p8] p9) [.AugAssign (.Name "opens" q1) .Sub (.Constant (.int 1) k4 q2) q3, .If (.Compare (.Name "opens" q4) [.Lt] [.Constant (.int 0) k5 q5] q6) [.Return (some (.Constant (.bool false) k6 q7)) q8] [] q9] [] q10] q11] [] c4) env) Q NoE s := by
  refine wpAny_For ?_ (fun y_ => rfl)
  refine Call_Name rfl (wpAny_Name (G.name env A NoE _ s V kG hB0 ?_) rfl)
  refine Calls.callWith_function (o := gob) (fd := gfd) (Calls.evalArgs_plain ?_)
  refine wpAny_items_cons (wpAny_Name (wpAny_loadName_local P.kind kA hns hma (wpAny_items_nil ?_)) rfl) rfl
  refine ⟨⟨hB0 _ _ G.at_, G.data⟩, ?_⟩
  have hdep : A.depth < recursionLimit := Nat.lt_of_le_of_lt (Nat.le_add_right _ _) (Nat.lt_trans R.depth (by decide))
  have lim : s.heap.NoLimit := G.lim.keeps hB0
  refine wpAny_call (codeAny_call_generator hdep (hB0 _ _ G.at_) G.data (by rw [G.scope]; exact X.co) (by rw [G.scope]; exact X.gen) G.body (G.code.keeps hB0) ?_)
  refine wpAny_of_eq (G.bind [.str T t] rfl) ?_
  rw [G.scope, G.closure]
  refine wpAny_newFunctionEnv X.cells (fun x hx => ?_) (fun h' hn' hs' => ?_) X.kind
  . simp only [List.zip_cons_cons, List.zip_nil_right, List.mem_singleton] at hx
    subst hx
    exact X.kA
  . generalize hgv : newEnv gsc s.heap.objs.size gfd.globals [] _ _ _ _ _ = genv
    have hL : genv.locals = s.heap.objs.size := by rw [<- hgv]; rfl
    have hgs : genv.scope = gsc := by rw [<- hgv]; rfl
    have hk' : ∀ b o, s.heap.get? b = some o -> h'.get? b = some o := fun b o e => (hs'.2 b (Nat.ne_of_lt (Heap.lt_size e))).trans (Heap.get?_push_of_some _ e)
    replace hn' : h'.Ns s.heap.objs.size (fun x => ([("addr" : Str)].zip [Value.str T t]).reverse.lookup x) := hn'
    refine ⟨lim.keeps hk', ?_⟩
    dsimp only
    generalize hH : Heap.push h' _ = h0
    have k0 : ∀ b o, h'.get? b = some o -> h0.get? b = some o := fun b o e => by rw [<- hH]; exact Heap.get?_push_of_some _ e
    have ha0 : h0.get? h'.objs.size = some { cls := .type "generator", data := .fields #[.int s.gens.size 0, .str gfd.name (s.toks + 1), .str gfd.qualname (s.toks + 1 + 1)] } := by rw [<- hH]; exact Heap.get?_push_size _ rfl
    have hs0 : ∀ b o, s.heap.get? b = some o -> h0.get? b = some o := fun b o e => k0 b o (hk' b o e)
    have szlt : s.heap.objs.size < h'.objs.size := hn'.lt
    have isG : h0.IsGen h'.objs.size s.gens.size := ⟨_, _, _, ha0, rfl, rfl, rfl⟩
    refine wpAny_pyIter_gen isG ?_
    obtain ⟨oL, eL⟩ : ∃ o, s.heap.get? env.locals = some o := let ⟨o, _, _, e, _⟩ := hns; ⟨o, e⟩
    have nL : s.heap.get? s.heap.objs.size = Option.none := size_free _
    have l0 : genv.locals ≠ env.locals := fun q => by rw [hL] at q; rw [<- q, nL] at eL; cases eL
    have hn0 : h0.Ns genv.locals (fun x => ([("addr" : Str)].zip [Value.str T t]).reverse.lookup x) := by rw [hL]; exact hn'.keeps k0
    have lo : ∃ o, h0.get? genv.locals = some o := let ⟨o, _, _, e, _⟩ := hn0; ⟨o, e⟩
    have hBG : hB.get? genv.locals = Option.none := by
      cases q : hB.get? genv.locals with
      | none => rfl
      | some o => have := hB0 _ _ q; rw [hL, nL] at this; cases this
    refine paren_loop (L := genv.locals) (h0 := h0) (X := T) (g := s.gens.size) P R hs0 (by rw [hL]; exact nL) ⟨oL, eL⟩ (by rw [hL]; exact Nat.ne_of_gt szlt) ⟨_, ha0⟩ ?_ G.lim hB0 hBL hQ (gs0 := .fresh (.func gbody genv)) ?_
    . cases q : s.heap.get? h'.objs.size with
      | none => rfl
      | some o => exact absurd (Nat.lt_trans (Heap.lt_size q) szlt) (Nat.lt_irrefl _)
    refine ⟨isG, Array.getElem?_push_size .., fun s'' ho => ⟨rfl, ?_⟩, ⟨m, u, hns.keeps hs0, hmo⟩, bare.push rfl, rfl, fun b o y_ e => hs0 b o e, by rw [List.drop_zero]⟩
    . skip
      refine cps fun U J => ?_
      obtain ⟨te, te2, tc, ty, tp, tp2, ip, yp1, yp2, yp3, p1, p2, a1, a2, a3, a4, a5, a6, f1, f2, f3, f4, i1, kt, kt2, ka, kb, b1, b2, b3, h1, h2, h3, h4, hbody⟩ := X.body
      refine J ?_; clear J U
      have kk : ∀ x, genv.kindOf x = kd gsc x := fun x => by show genv.scope.names.lookup x = _; rw [hgs]; rfl
      refine gen_start (A := A.in1) (hB := hB) (t := t) (R.handled) ⟨h1, h3, h4, by rw [hgs]; exact X.kind, by rw [kk]; exact X.kE, by rw [kk]; exact X.kP, by rw [kk]; exact X.kC, by rw [hgs]; exact X.co, ?_⟩ h2 hT hen ⟨by rw [hgs]; exact X.kind, ?_, ?_⟩ (by rw [kk]; exact X.kN) (by rw [kk]; exact X.kA) s'' s'' ?_ hBG
        (hn0.at fun o e => ho.1 _ o l0 e) (by simp) l0 ⟨oL, hs0 _ _ eL⟩ lo (fun b o e => ?_) KpG.refl hbody
      . unfold interactive; rw [hgs, X.kind]; rfl
      . rw [<- hgv]; exact G.globals
      . rw [<- hgv]; exact G.builtins
      . exact fun b o e => ho.1 b o (fun q => by rw [q, hBL] at e; cases e) (hs0 b o (hB0 b o e))
      . by_cases hb : b = env.locals
        . subst hb; exact ho.2
        . exact ⟨o, ho.1 b o hb e⟩
end
end

section
set_option maxRecDepth 10000
open PySem PyProof.Rows

noncomputable def okT (T : Str) : Bool := T.cps.all (fun c => c != 92 && c != 34) && decide (T.length <= 1000)
noncomputable def parenF : List PV -> Option PV
  | [.str T] => if okT T = true then some (.bool (pgo 0 T.cps.toList)) else Option.none
  | _ => Option.none

theorem parenF_inv {l : List PV} {p : PV} (h : parenF l = some p) : ∃ T, l = [.str T] /\ okT T = true /\ p = .bool (pgo 0 T.cps.toList) := by
  cases l with
  | nil => exact ns h
  | cons a l => cases a with
    | str T => cases l with
      | nil =>
        by_cases q : okT T = true
        . exact ⟨T, rfl, q, (Option.some.inj ((if_pos q).symm.trans h)).symm⟩
        . exact ns ((if_neg q).symm.trans h)
      | cons b l => exact ns h
    | _ => first | exact ns h | (cases l <;> exact ns h)

section
variable {prog : Program} {w : World} {A : Around} {s s₁ s' s'' : Shared} {hB hE : Heap} {B : Av} {sc gsc : Scope} {env : Env} {W W' W'' : Own} {r r' : Internal.Loc} {o : Orc} {k : Nat}

structure PText (body : List Stmt) (sc : Scope) (s0 s1 : Stmt) : Prop where
  body : ∃ (tp tp2 ip c1 c2 c3 c4 p1 p2 p3 p4 p5 p6 p7 p8 p9 q1 q2 q3 q4 q5 q6 q7 q8 q9 q10 q11 d1 d2 d3 d4 : Pos) (kt k1 k2 k3 k4 k5 k6 k7 : Nat),
    body = [s0, s1, .For (.Tuple [.Name "pos" tp, .Name "ch" tp2] kt ip) (.Call (.Name "_iter_escaped_chars" c1) [.Name "addr" c2] [] c3) [.If (.Compare (.Name "ch" p1) [.Eq] [.Constant (.str "(") k1 p2] p3) [.AugAssign (.Name "opens" p4) .Add (.Constant (.int 1) k2 p5) p6]
      [.If (.Compare (.Name "ch" p7) [.Eq] [.Constant (.str ")") k3 p8] p9) [.AugAssign (.Name "opens" q1) .Sub (.Constant (.int 1) k4 q2) q3, .If (.Compare (.Name "opens" q4) [.Lt] [.Constant (.int 0) k5 q5] q6) [.Return (some (.Constant (.bool false) k6 q7)) q8] [] q9] [] q10] q11] [] c4,
      .Return (some (.Compare (.Name "opens" d1) [.Eq] [.Constant (.int 0) k7 d2] d3)) d4]
  scope : okScope sc ["addr"] = true
  kO : kd sc "opens" = some .local
  kP : kd sc "pos" = some .local
  kC : kd sc "ch" = some .local
  kA : kd sc "addr" = some .local
  kG : kd sc "_iter_escaped_chars" = some .globalImplicit

set_option tactic.hygienic true in
theorem paren_ok (O : OrcOk prog w hB k o) {body gbody : List Stmt} {a ga : Addr} {ob gob : Obj} {fd gfd : FuncData} {s0 s1 : Stmt} (F : FnAt prog w hB "_check_parenthesis" ["addr"] body sc a ob fd) (Px : PText body sc s0 s1)
    (G : FnAt prog w hB "_iter_escaped_chars" ["addr"] gbody gsc ga gob gfd) (X : GText gbody gsc) (hen : GName prog w hB "enumerate" (.type "enumerate"))
    (hx : ∀ T, okT T = true -> ∃ r1 r2, Internal.exec o sc s0 (upAll ["addr"] [.str T] fun y_ => Option.none) = some (.next r1) /\ Internal.exec o sc s1 r1 = some (.next r2) /\ r2 "addr" = some (.pv (.str T)) /\ r2 "opens" = some (.pv (.int 0))) :
    FnOk prog w hB (k + 1) "_check_parenthesis" parenF := by
  refine fn_gen F Px.scope fun as p h => ?_
  obtain ⟨T, rfl, hT, rfl⟩ := parenF_inv h
  . skip
    . skip
      refine ⟨rfl, fun A V env hE s R T0 L => ?_⟩
      refine cps fun U J => ?_
      obtain ⟨r1, r2, e1, e2, ra, ro⟩ := hx T hT
      refine J ?_; clear J U
      obtain ⟨tp, tp2, ip, c1, c2, c3, c4, p1, p2, p3, p4, p5, p6, p7, p8, p9, q1, q2, q3, q4, q5, q6, q7, q8, q9, q10, q11, d1, d2, d3, d4, kt, k1, k2, k3, k4, k5, k6, k7, hbody⟩ := Px.body
      rw [hbody]
      refine wpAny_execs_cons (wpAny_mono (stmt_all O _ s0 (Nat.lt_succ_self _) sc env V hE _ _ s _ A R T0 L e1) (fun f s₁ g1 => ?_) fun y_ y_ e => e.elim)
      refine cps fun U J => ?_
      obtain ⟨rfl, W1, S1, st1⟩ := g1
      refine J ?_; clear J U
      have L1 := L.next T0 st1 S1
      refine wpAny_execs_cons (wpAny_mono (stmt_all O _ s1 (Nat.lt_succ_self _) sc env V hE _ _ s₁ _ A R T0 L1 e2) (fun f s₂ g2 => ?_) fun y_ y_ e => e.elim)
      refine cps fun U J => ?_
      obtain ⟨rfl, W2, S2, st2⟩ := g2
      refine J ?_; clear J U
      have L2 := L1.next T0 st2 S2
      have st := st1.trans st2
      have kk : ∀ {x : Str} {q : NameKind}, kd sc x = some q -> q ≠ .free -> env.kindOf x = some q := fun h n => by
        rcases S2.same _ with e | ⟨e, _⟩
        . rw [e, h]
        . rw [h] at e; cases e; exact absurd rfl n
      have P : PEnv env := ⟨S2.envs.kind, kk Px.kO (by decide), kk Px.kP (by decide), kk Px.kC (by decide)⟩
      refine cps fun U J => ?_
      obtain ⟨m, hm, hsl⟩ := S2.loc
      obtain ⟨v, hv, sv⟩ := hsl "addr" _ Px.kA ra
      obtain ⟨v2, hv2, sv2⟩ := hsl "opens" _ Px.kO ro
      obtain ⟨t, rfl⟩ := sv
      obtain ⟨u, rfl⟩ := sv2
      refine J ?_; clear J U
      have hBL : hB.get? env.locals = Option.none := S2.apart _ (.inr (.inl rfl))
      have h92 : ∀ (i c : Nat), T.cps[i]? = some c -> c ≠ 92 := fun i c hc => by
        unfold okT at hT
        simp only [Bool.and_eq_true, Array.all_eq_true, bne_iff_ne, ne_eq] at hT
        obtain ⟨hi, rfl⟩ := Array.getElem?_eq_some_iff.mp hc
        exact (hT.1 i hi).1
      have hmut : Mut sc env W2 env.locals := .inl (.inl rfl)
      have fin : ∀ s₃ : Shared, s₃.os = s₂.os -> AllBare s₃.gens -> (∀ b o, b ≠ env.locals -> s₂.heap.get? b = some o -> s₃.heap.get? b = some o) -> (∃ o, s₃.heap.get? env.locals = some o) -> Step sc env (fun y_ => Option.none) (fun y_ => Option.none) s s₃ := by
        intro s₃ ho hb hk hl
        refine ⟨fun b o n e => ?_, fun b o e => ?_, ho.trans st.os, fun y_ => hb, fun x a e => (by cases e)⟩
        . exact hk b o (fun q => n (.inl (.inl q))) (st.kept b o n e)
        . obtain ⟨o', e'⟩ := st.alive b o e
          by_cases hb : b = env.locals
          . subst hb; exact hl
          . exact ⟨o', hk b o' hb e'⟩
      refine wpAny_execs_cons (paren_for G X hen P S2.envs (kk Px.kG (by decide)) (kk Px.kA (by decide)) R hm hv hv2 h92 S2.base hBL L2.bare (fun f s₃ q => ?_))
      refine cps fun U J => ?_
      obtain ⟨ho, hb, hk, hl, q⟩ := q
      refine J ?_; clear J U
      rcases q with ⟨rfl, m', t', n, hm', hn', hres⟩ | ⟨rfl, hres⟩
      . refine wpAny_execs_cons (wpAny_Return_some (wpAny_Compare1 (wpAny_Name (wpAny_loadName_local P.kind P.kO hm' hn' (wpAny_Constant_int (eq_int ?_))) rfl) rfl))
        refine ⟨_, rfl, ?_, fin _ ho hb hk hl⟩
        rw [hres]; exact rfl
      . refine ⟨_, rfl, by rw [hres]; exact rfl, fin _ ho hb hk hl⟩
end
end

section
set_option maxRecDepth 10000
open PySem PyProof.Rows PySem.W PySem.Spec PyProof.V

noncomputable def b1F : List PV -> Option PV
  | [.str s] => if s.length = 1 then some (.bool (b1S ((s.cps.getD 0 0 : Nat) : Int))) else Option.none
  | _ => Option.none

theorem bf_ord1 {s : Str} (h : s.length = 1) : bf .ord [.str s] = some (.int (s.cps.getD 0 0 : Nat)) := if_pos h
theorem b1F_inv {l : List PV} {p : PV} (h : b1F l = some p) : ∃ T, l = [.str T] /\ T.length = 1 /\ p = .bool (b1S ((T.cps.getD 0 0 : Nat) : Int)) := by
  cases l with
  | nil => exact ns h
  | cons a l => cases a with
    | str T => cases l with
      | nil =>
        by_cases q : T.length = 1
        . exact ⟨T, rfl, q, (Option.some.inj ((if_pos q).symm.trans h)).symm⟩
        . exact ns ((if_neg q).symm.trans h)
      | cons b l => exact ns h
    | _ => first | exact ns h | (cases l <;> exact ns h)

section
variable {w : World} {A : Around} {s s₁ s' s'' : Shared} {hB hE : Heap} {B : Av} {sc : Scope} {env : Env} {W W' W'' : Own} {r r' : Internal.Loc} {o : Orc} {k : Nat}

set_option tactic.hygienic true in
theorem in_b1_ok (O : OrcOk PW w hB k o) {body : List Stmt} {a b n : PySem.Addr} {ob : Obj} {fd : FuncData} (F : FnAt PW w hB "in_table_b1" ["code"] body sc a ob fd) (hs : okScope sc ["code"] = true) {p1 p2 p3 p4 p5 p6 : Pos}
    (hbody : body = [.Return (some (.Compare (.Call (.Name "ord" p1) [.Name "code" p2] [] p3) [.In] [.Name "b1_set" p4] p5)) p6])
    (kC : kd sc "code" = some .local) (kO : kd sc "ord" = some .globalImplicit) (kB : kd sc "b1_set" = some .globalImplicit) (hg : GName PW w hB "b1_set" (.ref b)) (hS : hB.SetOf (intKind PW w) b b1S n) :
    FnOk PW w hB (k + 1) "in_table_b1" b1F := by
  refine fn_gen F hs fun as p h => ?_
  obtain ⟨x, rfl, hx, rfl⟩ := b1F_inv h
  . skip
    . skip
      refine ⟨rfl, fun A V env hE s R T L => ?_⟩
      have kk : ∀ {x : Str} {q : NameKind}, kd sc x = some q -> q ≠ .free -> env.kindOf x = some q := fun h n => by
        rcases L.st.same _ with e | ⟨e, _⟩
        . rw [e, h]
        . rw [h] at e; cases e; exact absurd rfl n
      have hev : ev o sc (.Call (.Name "ord" p1) [.Name "code" p2] [] p3) (upAll ["code"] [.str x] fun y_ => Option.none) = some (.int (x.cps.getD 0 0 : Nat)) := by
        have hb : bname (Str.ofString "ord") = some .ord := by rfl
        simp [v_c, v_n, v_bool, v_bin, v_not, v_neg, v_if, v_list, v_tup, v_cmp1, v_cmp2, v_call, v_meth, v_slc, v_sub, v_comp, v_star, v_set, v_setc, v_dictc, v_kw, v_comp0, v_s0, v_ss, v_s1, look, kC, kO, upAll_c, upAll_n, up, Slot.val, Orc.call, hb, bf_ord1 hx]
      rw [hbody]
      refine wpAny_execs_cons (wpAny_Return_some (wpAny_Compare1 ?_ rfl))
      refine wpAny_mono (expr_ok O _ sc env V _ _ s _ A R L.bare L.st hev) (fun v s₁ q => ?_) fun y_ y_ e => e.elim
      refine cps fun U J => ?_
      obtain ⟨e1, rd, _⟩ := q
      obtain ⟨t, rfl⟩ := rd
      refine J ?_; clear J U
      have S1 := L.st.ext e1.heap
      refine wpAny_Name (hg env A NoE _ s₁ S1.envs (kk kB (by decide)) S1.base ?_) rfl
      have hS1 : s₁.heap.SetOf (intKind PW w) b b1S n := by
        refine cps fun U J => ?_
        obtain ⟨o, es, ep, t, e, r⟩ := hS
        refine J ?_; clear J U
        exact ⟨o, es, ep, t, S1.base _ _ e, r⟩
      refine wpAny_inSet_of (intKind_is PW w _ t) (by rfl) hS1 ?_
      exact ⟨_, rfl, rd_bool, Step.of_ext (e1.trans ext_toks)⟩

noncomputable def D3 : List (PyData × PyData) := b3L.map fun p => (PyData.int p.1, PyData.str p.2)
theorem flat_b3 {kvs : List (Int × Value)} {L : List (Int × Str)} (h : Vals kvs L) : FlatPairs PyData.int kvs (L.map fun p => (PyData.int p.1, PyData.str p.2)) := by
  induction h with
  | nil => exact .nil
  | cons _ ih => exact .cons (Flat.str _ _) ih

noncomputable def b3get (i : Int) : Option Str := match Spec.lookup (.int i) D3 with
  | some (.str x) => some x
  | _ => Option.none
noncomputable def b3F : List PV -> Option PV
  | [.str s] => if s.length = 1 then some (.str ((b3get ((s.cps.getD 0 0 : Nat) : Int)).getD (Txt.lower s))) else Option.none
  | _ => Option.none

theorem b3F_inv {l : List PV} {p : PV} (h : b3F l = some p) : ∃ T, l = [.str T] /\ T.length = 1 /\ p = .str ((b3get ((T.cps.getD 0 0 : Nat) : Int)).getD (Txt.lower T)) := by
  cases l with
  | nil => exact ns h
  | cons a l => cases a with
    | str T => cases l with
      | nil =>
        by_cases q : T.length = 1
        . exact ⟨T, rfl, q, (Option.some.inj ((if_pos q).symm.trans h)).symm⟩
        . exact ns ((if_neg q).symm.trans h)
      | cons b l => exact ns h
    | _ => first | exact ns h | (cases l <;> exact ns h)

theorem look_map : ∀ (L : List (Int × Str)) (i : Int), Spec.lookup (.int i) (L.map fun p => (PyData.int p.1, PyData.str p.2)) = Option.none \/ ∃ x, Spec.lookup (.int i) (L.map fun p => (PyData.int p.1, PyData.str p.2)) = some (.str x)
  | [], i => .inl rfl
  | p :: L, i => by
    have e : Spec.lookup (.int i) ((p :: L).map fun p => (PyData.int p.1, PyData.str p.2)) = if Spec.same (.int p.1) (.int i) = true then some (.str p.2) else Spec.lookup (.int i) (L.map fun p => (PyData.int p.1, PyData.str p.2)) := by
      simp only [List.map_cons, Spec.lookup]
    rw [e]
    split
    . exact .inr ⟨_, rfl⟩
    . exact look_map L i

set_option tactic.hygienic true in
theorem map_b3_ok (O : OrcOk PW w hB k o) {body : List Stmt} {a b : PySem.Addr} {ob : Obj} {fd : FuncData} {kvs : List (Int × Value)} (F : FnAt PW w hB "map_table_b3" ["code"] body sc a ob fd) (hs : okScope sc ["code"] = true) {p1 p2 p3 p4 p5 p6 p7 p8 : Pos} {rest : List Stmt}
    (hbody : body = .Assign [.Name "r" p1] (.Call (.Attribute (.Name "b3_exceptions" p2) "get" p3) [.Call (.Name "ord" p4) [.Name "code" p5] [] p6] [] p7) p8 :: rest) (hline : (p3.endLine == p7.line) = true)
    (kC : kd sc "code" = some .local) (kR : kd sc "r" = some .local) (kO : kd sc "ord" = some .globalImplicit) (kB : kd sc "b3_exceptions" = some .globalImplicit) (hg : GName PW w hB "b3_exceptions" (.ref b)) (hS : hB.DictOf (IK w) b kvs) (hv : Vals kvs b3L) (hsm : (b == sysModules) = false)
    (hrest : ∀ (x : Str) (q : PV), x.length = 1 -> (q = .none \/ ∃ y, q = .str y) -> Internal.execs o sc rest (up "r" (.pv q) (frz [] (upAll ["code"] [.str x] fun y_ => Option.none))) = some (.ret (match q with | .none => .str (Txt.lower x) | q => q))) :
    FnOk PW w hB (k + 1) "map_table_b3" b3F := by
  refine fn_gen F hs fun as p h => ?_
  obtain ⟨x, rfl, hx, rfl⟩ := b3F_inv h
  . skip
    . skip
      refine ⟨rfl, fun A V env hE s R T L => ?_⟩
      have kk : ∀ {x : Str} {q : NameKind}, kd sc x = some q -> q ≠ .free -> env.kindOf x = some q := fun h n => by
        rcases L.st.same _ with e | ⟨e, _⟩
        . rw [e, h]
        . rw [h] at e; cases e; exact absurd rfl n
      have hord : bname (Str.ofString "ord") = some .ord := by rfl
      have hev : ev o sc (.Call (.Name "ord" p4) [.Name "code" p5] [] p6) (upAll ["code"] [.str x] fun y_ => Option.none) = some (.int (x.cps.getD 0 0 : Nat)) := by
        simp [v_c, v_n, v_bool, v_bin, v_not, v_neg, v_if, v_list, v_tup, v_cmp1, v_cmp2, v_call, v_meth, v_slc, v_sub, v_comp, v_star, v_set, v_setc, v_dictc, v_kw, v_comp0, v_s0, v_ss, v_s1, look, kC, kO, upAll_c, upAll_n, up, Slot.val, Orc.call, hord, bf_ord1 hx]
      have hevs : evs o sc [.Call (.Name "ord" p4) [.Name "code" p5] [] p6] (upAll ["code"] [.str x] fun y_ => Option.none) = some [.int (x.cps.getD 0 0 : Nat)] := by
        simp only [v_s0, v_ss, v_s1, hev]; rfl
      rw [hbody]
      refine wpAny_execs_cons (wpAny_Assign_Name ?_ rfl)
      rw [arm_eval_Call]
      refine wpAny_bind (m := attributeBase (.Name "b3_exceptions" p2) "get" env (eval (.Name "b3_exceptions" p2) env)) (wpAny_Name (hg env A NoE _ s L.st.envs (kk kB (by decide)) L.st.base ?_) rfl)
      refine wpAny_bind (wpAny_standAt ?_)
      have hpos : methodCallPos true (.Name "b3_exceptions" p2) env p3 p7 = pure p7 := by unfold methodCallPos; simp [hline]
      have hform : methodCallForm (([.Call (.Name "ord" p4) [.Name "code" p5] [] p6] : List Expr).length + ([] : List Keyword).length) (backTo p7 (starEach [.Call (.Name "ord" p4) [.Name "code" p5] [] p6] env)) (backToKw p7 (keywordEach [] env)) = true := by rfl
      unfold methodCall
      rw [hform]
      have tab : ∀ {h : Heap}, (∀ b o, hB.get? b = some o -> h.get? b = some o) -> IntTab PW w h b D3 := fun hk => ⟨hsm, kvs, hS.keep hk, flat_b3 hv⟩
      refine wpAny_bind (wpAny_holding (getMethod_intTab_get (tab L.st.base) ?_))
      refine wpAny_bind (wpAny_of_eq hpos ?_)
      refine callWith_any (.inl ⟨_, rfl⟩) hevs (wpAny_mono (evs_ok (fun e y_ => expr_ok O e) R L.bare L.st hevs) (fun vs s₁ q => ?_) fun y_ y_ e => e.elim)
      refine cps fun U J => ?_
      obtain ⟨e1, rd⟩ := q
      obtain ⟨v, r, rfl, h1, h2⟩ := RdL_cons.mp rd
      refine J ?_; clear J U
      cases RdL_nil.mp h2
      obtain ⟨t, rfl⟩ := h1
      have S1 := L.st.ext e1.heap
      refine call_get1_intTab (tab S1.base) fun v hf => ?_
      have hq : ∃ q, (q = PV.none \/ ∃ y, q = .str y) /\ Rd s₁.heap (VE V env (fun y_ => Option.none) []) q v /\ (match q with | .none => PV.str (Txt.lower x) | q => q) = .str ((b3get ((x.cps.getD 0 0 : Nat) : Int)).getD (Txt.lower x)) := by
        rcases look_map b3L ((x.cps.getD 0 0 : Nat) : Int) with e | ⟨y, e⟩
        . have e' : Spec.lookup (.int ((x.cps.getD 0 0 : Nat) : Int)) D3 = Option.none := e
          rw [e'] at hf
          refine ⟨.none, .inl rfl, hf.none_inv, ?_⟩
          unfold b3get; rw [e']; rfl
        . have e' : Spec.lookup (.int ((x.cps.getD 0 0 : Nat) : Int)) D3 = some (.str y) := e
          rw [e'] at hf
          obtain ⟨t', rfl⟩ := Flat.str_inv hf
          refine ⟨.str y, .inr ⟨y, rfl⟩, rd_str, ?_⟩
          unfold b3get; rw [e']; rfl
      refine cps fun U J => ?_
      obtain ⟨q, hq1, hq2, hq3⟩ := hq
      refine J ?_; clear J U
      refine wpAny_mono (pv_store (xs := []) T L (by unfold storable; rw [kR]) (e1.trans ext_toks) (s₁ := { s₁ with toks := s₁.toks + 1 }) hq2) (fun y_ s₂ q2 => ?_) fun y_ y_ e => e.elim
      refine cps fun U J => ?_
      obtain ⟨_, W2, S2, st2⟩ := q2
      refine J ?_; clear J U
      refine wpAny_mono (stmts_ok O rest sc env V hE W2 _ s₂ _ A R T (L.next T st2 S2) (hrest x q hx hq1)) (fun f s₃ q3 => ?_) fun y_ y_ e => e.elim
      rw [hq3] at q3
      exact OutP.after st2 q3
end
end

section
open PySem PyProof.Rows

noncomputable def ext (o : Orc) (f : Str) (F : List PV -> Option PV) : Orc := { o with fn := fun g as => if g = f then F as else o.fn g as }

section
variable {prog : Program} {w : World} {hB : Heap} {k k' : Nat} {o : Orc} {f : Str} {F : List PV -> Option PV}
theorem FnOk.up (H : FnOk prog w hB k f F) (h : k <= k') : FnOk prog w hB k' f F := by
  refine cps fun U J => ?_
  obtain ⟨a, ob, fd, h1, h2, h3, h4⟩ := H
  refine J ?_; clear J U
  exact ⟨a, ob, fd, h1, h2, h3, fun as p hp A V s vs R => h4 as p hp A V s vs (R.less h)⟩
theorem OrcOk.up (O : OrcOk prog w hB k o) (h : k <= k') : OrcOk prog w hB k' o :=
  ⟨O.gl, O.bf, fun f as p h1 h2 => let ⟨F, h3, h4⟩ := O.fn f as p h1 h2; ⟨F, h3.up h, h4⟩⟩
theorem ext_ok (O : OrcOk prog w hB k o) (H : FnOk prog w hB k f F) : OrcOk prog w hB k (ext o f F) := by
  refine ⟨O.gl, O.bf, fun g as p h1 h2 => ?_⟩
  simp only [ext] at h2
  split at h2
  . rename_i e; subst e; exact ⟨F, H, h2⟩
  . exact O.fn g as p h1 h2
theorem ext_eq {as : List PV} : (ext o f F).fn f as = F as := if_pos rfl
theorem ext_ne {g : Str} {as : List PV} (h : (g == f) = false) : (ext o f F).fn g as = o.fn g as := if_neg (by simpa using h)
theorem ext_gl : (ext o f F).gl = o.gl := rfl
theorem ext_fuel : (ext o f F).fuel = o.fuel := rfl
end

noncomputable def cf (o : Orc) (i : Nat) (names : List Str) : List PV -> Option PV := callF o names (bd i) (scp i)

noncomputable def o2 : Orc := ext (ext (ext (ext (ext (ext (ext (ext o1 "_substitution_cost" (cf o1 4 ["ch_a", "ch_b"])) "_strip_quoted_realnames" (cf o1 8 ["addr"])) "in_table_b1" b1F) "map_table_b3" b3F)
  "_law_unseen" (cf o1 16 [])) "_law_word" (cf o1 20 ["pairs", "room"])) "_law_common" (cf o1 22 ["numbers"])) "_law_sets" (cf o1 23 ["size"])
noncomputable def o3 : Orc := ext (ext (ext (ext (ext o2 "_levenshtein_distance" (cf o2 5 ["a", "b", "max_cost"])) "_check_parenthesis" parenF) "_law_text" (cf o2 17 ["numbers"])) "_law_prepared" (cf o2 18 ["text"])) "_law_due" (cf o2 25 ["lengths"])
noncomputable def od : Nat -> Orc
  | 0 => o3
  | n + 1 => ext o3 "_law_determinant" (cf (od n) 21 ["table"])
noncomputable def o4 : Orc := ext (ext (od 7) "_law_read" (cf (od 7) 19 ["text"])) "_law_divisors" (cf (od 7) 24 ["table"])
noncomputable def lawF : List PV -> Option PV := cf o4 26 ["script"]

section
variable {w : World} {hB : Heap} {mg mb : Str -> Option Value} {Pl : PySem.Addr} {o : Orc} {k : Nat}

theorem bf_free : ∀ f b, bname f = some b -> f ∉ (FF Pl (B1 w Pl) (B3 w Pl)).map (·.1) /\ f ≠ "__name__" /\ f ∉ bootMainNames := by
  intro f b h
  unfold bname at h
  repeat' split at h
  all_goals (first | (cases h; done) | skip)
  all_goals (rename_i e; subst e; exact ⟨notIn (by rfl), by decide, by decide⟩)

theorem o1_ok (T : TopIs w hB mg mb Pl) : OrcOk PW w hB 0 o1 := by
  refine ⟨fun x p h => ?_, fun f b h => ?_, fun f as p y_ h => by cases h⟩
  . have h' : glF x = some p := h
    unfold glF at h'
    repeat' split at h'
    . rename_i e; subst e; cases h'
      refine cps fun U J => ?_
      obtain ⟨v, hv, t, rfl⟩ := T.held ("_MAX_STRING_SIZE", IntV 40) (by simp [FF])
      refine J ?_; clear J U
      exact ⟨_, gname_top T.g hv, rd_int⟩
    . rename_i e; subst e; cases h'
      refine cps fun U J => ?_
      obtain ⟨v, hv, t, rfl⟩ := T.held ("_MOVE_COST", IntV 2) (by simp [FF])
      refine J ?_; clear J U
      exact ⟨_, gname_top T.g hv, rd_int⟩
    . rename_i e; subst e; cases h'
      refine cps fun U J => ?_
      obtain ⟨v, hv, t, rfl⟩ := T.held ("_CASE_COST", IntV 1) (by simp [FF])
      refine J ?_; clear J U
      exact ⟨_, gname_top T.g hv, rd_int⟩
    . rename_i e; subst e; cases h'
      refine ⟨.type "int", gname_built T.g T.b (T.free _ (notIn (by rfl)) (by decide) (by decide)) ((T.bu _ (by decide)).trans (by rfl)), ?_⟩
      exact Eq.refl _
    . cases h'
  . obtain ⟨h1, h2, h3⟩ := bf_free (w := w) (Pl := Pl) f b h
    exact gname_built T.g T.b (T.free _ h1 h2 h3) ((T.bu _ h2).trans (boot_names b f h))
end
end

section
open PySem

theorem clip_nat (n k : Nat) : clipAt n (k : Int) = min k n := by
  unfold clipAt
  rw [if_neg (Int.not_lt.mpr (Int.natCast_nonneg k)), Int.max_eq_right (Int.le_min.mpr ⟨Int.natCast_nonneg k, Int.natCast_nonneg n⟩)]
  rcases Nat.le_total k n with h | h
  . rw [Nat.min_eq_left h, Int.min_eq_left (Int.ofNat_le.mpr h)]; rfl
  . rw [Nat.min_eq_right h, Int.min_eq_right (Int.ofNat_le.mpr h)]; rfl
theorem clip_neg (n q : Nat) : clipAt n (-((q : Int) + 1)) = n - (q + 1) := by
  unfold clipAt
  rw [if_pos (Int.neg_neg_of_pos (Int.lt_add_one_of_le (Int.natCast_nonneg q)))]
  have e : -((q : Int) + 1) + (n : Int) = (n : Int) - ((q + 1 : Nat) : Int) := by rw [Int.natCast_add]; exact (Int.add_comm _ _).trans Int.sub_eq_add_neg.symm
  rw [e, Int.min_eq_left (Int.sub_le_self _ (Int.natCast_nonneg _))]
  rcases Nat.le_total (q + 1) n with h | h
  . rw [<- Int.ofNat_sub h]; rfl
  . rw [Int.max_eq_left (Int.sub_nonpos_of_le (Int.ofNat_le.mpr h)), Nat.sub_eq_zero_of_le h]; rfl
theorem cut_to {α : Type} (x : List α) (k : Nat) : cut x Option.none (some (k : Int)) = x.take k := by
  simp only [cut, Option.elim, clip_nat, List.drop_zero, Nat.sub_zero]
  rw [<- List.take_eq_take_min]
theorem cut_from {α : Type} (x : List α) (k : Nat) : cut x (some (k : Int)) Option.none = x.drop k := by
  simp only [cut, Option.elim, clip_nat]
  by_cases h : k <= x.length
  . rw [Nat.min_eq_left h, List.take_of_length_le (by simp)]
  . rw [Nat.min_eq_right (Nat.le_of_not_le h), List.drop_of_length_le (Nat.le_refl _), List.drop_of_length_le (Nat.le_of_not_le h), List.take_nil]
theorem cut_both {α : Type} (x : List α) (i j : Nat) (h : j <= x.length) : cut x (some (i : Int)) (some (j : Int)) = (x.drop i).take (j - i) := by
  simp only [cut, Option.elim, clip_nat]
  rw [Nat.min_eq_left h]
  by_cases hi : i <= x.length
  . rw [Nat.min_eq_left hi]
  . rw [Nat.min_eq_right (Nat.le_of_not_le hi), List.drop_of_length_le (Nat.le_refl _), List.drop_of_length_le (Nat.le_of_not_le hi)]
    simp
theorem sl_to (x : List PV) (k : Nat) (h : x.length <= wide) : slice (.lst x) .none (.int k) .none = some (.lst (x.take k)) := by
  have : slice (.lst x) .none (.int k) .none = if x.length <= wide then some (.lst (cut x Option.none (some (k : Int)))) else Option.none := rfl
  rw [this, if_pos h, cut_to]
theorem sl_from (x : List PV) (k : Nat) (h : x.length <= wide) : slice (.lst x) (.int k) .none .none = some (.lst (x.drop k)) := by
  have : slice (.lst x) (.int k) .none .none = if x.length <= wide then some (.lst (cut x (some (k : Int)) Option.none)) else Option.none := rfl
  rw [this, if_pos h, cut_from]
theorem sl_from1 (x : List PV) (h : x.length <= wide) : slice (.lst x) (.int 1) .none .none = some (.lst (x.drop 1)) := sl_from x 1 h
theorem sub_l (l : List PV) (k : Nat) (hk : k < l.length) (hb : k < 1000000) : subsc (.lst l) (.int k) = l[k]? := by
  have hs := small_m hb
  have hi := seq_nat hk
  simp only [subsc_l, subsc_t, subsc_s, hs, if_true, item, hi, Option.bind_some]
theorem sub_t (l : List PV) (k : Nat) (hk : k < l.length) (hb : k < 1000000) : subsc (.tup l) (.int k) = l[k]? := by
  have hs := small_m hb
  have hi := seq_nat hk
  simp only [subsc_l, subsc_t, subsc_s, hs, if_true, item, hi, Option.bind_some]
theorem len_l (l : List PV) (h : l.length <= wide) : bf .len [.lst l] = some (.int l.length) := if_pos h
theorem len_s (x : Str) (h : x.length <= wide) : bf .len [.str x] = some (.int x.length) := if_pos h

noncomputable def encR (r : List Int) : PV := .lst (r.map .int)
noncomputable def encT (t : List (List Int)) : PV := .lst (t.map encR)
noncomputable def minorF (t : List (List Int)) (k : Nat) : List (List Int) := t.map fun r => r.take k ++ r.drop (k + 1)
noncomputable def mulO (a b : Int) : Option Int := if (small a && small b) = true then some (a * b) else Option.none
theorem mulO_bin {a b c : Int} (h : mulO a b = some c) : bin .Mult (.int a) (.int b) = some (.int c) := by
  unfold mulO at h
  split at h
  . rename_i hs; cases h; exact y_mul hs
  . cases h
noncomputable def okSize (t : List (List Int)) : Bool := decide (t.length <= 100) && t.all fun r => decide (r.length <= 100)

noncomputable def detStep (D : List (List Int) -> Option Int) (t : List (List Int)) (total : Int) (k : Nat) : Option (Sum Int PV) :=
  match t with
  | [] => Option.none
  | r0 :: rest => match r0[k]? with
    | Option.none => Option.none
    | some x => if (x == 0) = true then some (.inl total) else
      (mulO ((-1) ^ k) x).bind fun a => (D (minorF rest k)).bind fun d => (mulO a d).map fun p => .inl (total + p)
noncomputable def detF : Nat -> List (List Int) -> Option Int
  | 0, _ => Option.none
  | n + 1, t => if okSize t = true then match foldO (detStep (detF n) t) (if t.isEmpty = true then 1 else 0) (List.range t.length) with
    | some (.inl d) => some d
    | _ => Option.none
    else Option.none

noncomputable def s21 : Stmt := nth (bd 21) 1
noncomputable def I21 (t : List (List Int)) (total : Int) (r : Internal.Loc) : Prop := r "table" = some (.pv (encT t)) /\ r "total" = some (.pv (.int total))

theorem sub_l0 {a : PV} {l : List PV} : subsc (.lst (a :: l)) (.int 0) = some a := by
  have := sub_l (a :: l) 0 (by simp) (by decide)
  simpa using this
theorem sl_succ (x : List PV) (k : Nat) (h : x.length <= wide) : slice (.lst x) (.int ((k : Int) + 1)) .none .none = some (.lst (x.drop (k + 1))) := sl_from x (k + 1) h
theorem eq_nil (l : List PV) : cmp .Eq (.lst l) (.lst []) = some l.isEmpty := by cases l <;> rfl
theorem pow_neg (k : Nat) (h : k < 1000) : bin .Pow (.int (-1)) (.int k) = some (.int ((-1) ^ k)) := by
  have := @y_pow (-1) (k : Int) (by
    have h1 : small (-1) = true := by decide
    simp only [h1, Bool.true_and, Bool.and_eq_true, decide_eq_true_eq]; lia)
  simpa using this

theorem det_step {n : Nat} {t : List (List Int)} (hD : ∀ u d, detF n u = some d -> (od n).fn "_law_determinant" [encT u] = some (.int d)) (hok : okSize t = true) (total : Int) (k : Nat) (r : Internal.Loc) (x : Sum Int PV) (hI : I21 t total r) (hs : detStep (detF n) t total k = some x) :
    ∃ out, (do let r' <- bindT (scp 21) (targetOf s21) (.int k) r; Internal.execs (od n) (scp 21) (bodyOf s21) r') = some out /\ Good (I21 t) x out := by
  have hb : bindT (scp 21) (targetOf s21) (.int k) r = some (up "k" (.pv (.int k)) r) := by rfl
  rw [hb, bind_s]
  cases t with
  | nil => cases hs
  | cons r0 rest =>
    simp only [detStep] at hs
    obtain ⟨ht, hto⟩ := hI
    have ht' : r "table" = some (.pv (.lst (encR r0 :: rest.map encR))) := ht
    simp only [okSize, Bool.and_eq_true, decide_eq_true_eq, List.all_eq_true, List.length_cons] at hok
    cases hx : r0[k]? with
    | none => rw [hx] at hs; cases hs
    | some v =>
      rw [hx] at hs
      have hk : k < r0.length := (List.getElem?_eq_some_iff.mp hx).1
      have hr0 := hok.2 r0 List.mem_cons_self
      have s1 : subsc (encR r0) (.int k) = some (.int v) := by
        unfold encR
        rw [sub_l _ k (by simpa using hk) (lt_m (Nat.le_trans (Nat.le_of_lt (by assumption)) (by assumption)) (by decide)), List.getElem?_map, hx]; rfl
      (generalize hsy : (bodyOf s21) = Sy; (conv at hsy => (lhs; whnf)); subst hsy)
      have w1 : rest.length + 1 <= wide := by first | exact Nat.le_trans (Nat.succ_le_succ (by assumption)) (by decide) | (simp only [wide]; lia)
      by_cases hv : (v == 0) = true
      . simp only [hv, if_true] at hs
        cases hs
        have hv2 : (!(v == 0)) = false := by rw [hv]; rfl
        have s0 := @sub_l0 (encR r0) (rest.map encR)
        apply go_o
        . fail "x"
        . exact ⟨by specialize ht, by specialize hto⟩
      . have hv' : (v == 0) = false := by simpa using hv
        simp only [hv', Bool.false_eq_true, if_false] at hs
        obtain ⟨a, ha, hs⟩ := Option.bind_eq_some_iff.mp hs
        obtain ⟨d, hd, hs⟩ := Option.bind_eq_some_iff.mp hs
        obtain ⟨p, hp, rfl⟩ := Option.map_eq_some_iff.mp hs
        have a1 := mulO_bin ha
        have a2 := mulO_bin hp
        have a3 := pow_neg k (by lia)
        have a4 := hD _ _ hd
        have a5 := sl_from1 (encR r0 :: rest.map encR) (by simpa using w1)
        simp only [List.drop_succ_cons, List.drop_zero] at a5
        have hv2 : (!(v == 0)) = true := by rw [hv']; rfl
        have s0 := @sub_l0 (encR r0) (rest.map encR)
        replace a4 : (od n).fn "_law_determinant" [.lst (rest.map fun r => encR (r.take k ++ r.drop (k + 1)))] = some (.int d) := by
          have e : PV.lst (rest.map fun r => encR (r.take k ++ r.drop (k + 1))) = encT (minorF rest k) := by simp [encT, minorF, Function.comp_def]
          rw [e]; exact a4
        apply go_o
        . with_reducible apply k_x1
          . with_reducible apply k_sT
            . fail "x"
            . exact tr_h hv2
            . with_reducible apply k_x1
              . with_reducible apply k_asg
                with_reducible apply k_an0
                exact rfl
                exact rfl
                decide
                with_reducible apply k_bin
                . fail "x"
                . with_reducible apply k_bin
                  . fail "x"
                  . with_reducible apply k_call
                    . decide
                    . with_reducible apply k_s1
                      . exact rfl
                      . refine k_comp (u := .lst (rest.map encR)) ?_ iter_l (by decide) (turns_one (g := fun r => encR (r.take k ++ r.drop (k + 1))) _ fun row hrow => k_one (by decide) ?_) (by simp only [List.length_map]; lia)
                        . fail "x"
                        . have hl := hok.2 row (List.mem_cons_of_mem _ hrow)
                          have b1 := sl_to (row.map PV.int) k (by rw [List.length_map]; exact le_w (by assumption) (by decide))
                          have b2 := sl_succ (row.map PV.int) k (by rw [List.length_map]; exact le_w (by assumption) (by decide))
                          have b3 := @y_add_ll ((row.map PV.int).take k) ((row.map PV.int).drop (k + 1)) (by rw [List.length_take, List.length_drop, List.length_map]; exact Nat.le_trans (Nat.add_le_add (Nat.min_le_right _ _) (Nat.sub_le _ _)) (Nat.le_trans (Nat.add_le_add (by assumption) (by assumption)) (by decide)))
                          show _ = some (PV.lst ((row.take k ++ row.drop (k + 1)).map PV.int))
                          rw [List.map_append, List.map_take, List.map_drop]
                          unfold encR
                          fail "x"
                      . fail "x"
                    . fail "x"
                  . fail "x"
                . fail "x"
              . fail "x"
          . fail "x"
        . exact ⟨by specialize ht, by fail "x"⟩

set_option tactic.hygienic true in
theorem det_eq : ∀ (n : Nat) (t : List (List Int)) (d : Int), detF n t = some d -> (od n).fn "_law_determinant" [encT t] = some (.int d) := by
  intro n
  induction n with
  | zero => intro t d h; cases h
  | succ n ih =>
    intro t d h
    simp only [detF] at h
    split at h
    . rename_i hok
      split at h
      . rename_i d' hd
        cases h
        show (ext o3 "_law_determinant" (cf (od n) 21 ["table"])).fn "_law_determinant" [encT t] = _
        rw [ext_eq]
        refine callF_of rfl ?_
        have e : bd 21 = [nth (bd 21) 0, s21, nth (bd 21) 2] := by rfl
        rw [e]
        have hT : t.length <= 100 := by simp only [okSize, Bool.and_eq_true, decide_eq_true_eq] at hok; exact hok.1
        have h0 : Internal.exec (od n) (scp 21) (nth (bd 21) 0) (upAll ["table"] [encT t] fun y_ => Option.none) = some (.next (up "total" (.pv (.int (if t.isEmpty = true then 1 else 0))) (upAll ["table"] [encT t] fun y_ => Option.none))) := by
          (generalize hsy : (nth (bd 21) 0) = Sy; (conv at hsy => (lhs; whnf)); subst hsy)
          have e1 := eq_nil (t.map encR)
          unfold encT
          rw [List.isEmpty_map] at e1
          cases hE : t.isEmpty with
          | true => rw [hE] at e1; fail "x"
          | false => rw [hE] at e1; fail "x"
        rw [execs_next h0]
        obtain ⟨out, h1, h2⟩ := for_fold (I := I21 t) (enc := fun (k : Nat) => PV.int k) (F := fun p r => do let r' <- bindT (scp 21) (targetOf s21) p r; Internal.execs (od n) (scp 21) (bodyOf s21) r') (f := detStep (detF n) t)
          (fun total k r x hI hs => det_step ih hok total k r x hI hs) (List.range t.length) _ (frz (esc (iterE s21)) (up "total" (.pv (.int (if t.isEmpty = true then 1 else 0))) (upAll ["table"] [encT t] fun y_ => Option.none))) _ (by
            (generalize hsy : (iterE s21) = Sy; (conv at hsy => (lhs; whnf)); subst hsy)
            exact of_frz rfl ⟨by fail "x", by fail "x"⟩) hd
        rw [<- rng_zero, <- exec_for' (p := Stmt.pos s21) (by rfl) (x := .rng 0 t.length 1) (by
          (generalize hsy : (iterE s21) = Sy; (conv at hsy => (lhs; whnf)); subst hsy)
          have e1 := len_l (t.map encR) (by rw [List.length_map]; exact le_w (by assumption) (by decide))
          have e2 := @bf_range1 (t.length : Int) (tiny_n (by assumption) (by decide))
          simp only [List.length_map] at e1
          unfold encT
          fail "x") rfl] at h1
        cases out with
        | ret p => exact h2.elim
        | next r' =>
          rw [execs_next h1]
          refine execs_ret ?_
          have hI : r' "total" = some (.pv (.int d)) := h2.2
          (generalize hsy : (nth (bd 21) 2) = Sy; (conv at hsy => (lhs; whnf)); subst hsy)
          fail "x"
      . cases h
    . cases h
end

section
open PySem

theorem od_fn {n : Nat} {g : Str} {as : List PV} (h : (g == ("_law_determinant" : Str)) = false) : (od n).fn g as = o3.fn g as := by
  cases n with
  | zero => rfl
  | succ n => exact ext_ne h
theorem o3_o2 {g : Str} {as : List PV} (h : (g == ("_levenshtein_distance" : Str) || g == ("_check_parenthesis" : Str) || g == ("_law_text" : Str) || g == ("_law_prepared" : Str) || g == ("_law_due" : Str)) = false) : o3.fn g as = o2.fn g as := by
  simp only [Bool.or_eq_false_iff] at h
  refine cps fun U J => ?_
  obtain ⟨⟨⟨⟨h1, h2⟩, h3⟩, h4⟩, h5⟩ := h
  refine J ?_; clear J U
  unfold o3
  rw [ext_ne h5, ext_ne h4, ext_ne h3, ext_ne h2, ext_ne h1]
theorem o2_sets {as : List PV} : o2.fn "_law_sets" as = cf o1 23 ["size"] as := ext_eq
theorem o2_common {as : List PV} : o2.fn "_law_common" as = cf o1 22 ["numbers"] as := by unfold o2; rw [ext_ne (by decide), ext_eq]
theorem od_fuel {n : Nat} : (od n).fuel = 5000 := by cases n <;> rfl

noncomputable def encS (s : List Int) : PV := .lst (s.map .int)
noncomputable def pick? {α : Type} (l : List α) (i : Int) : Option α := if 0 <= i /\ i < 1000 then l[i.toNat]? else Option.none
noncomputable def rowO (t : List (List Int)) (cols : List Int) (i : Int) : Option (List Int) := (pick? t i).bind fun row => cols.mapM fun j => pick? row j
noncomputable def partO (t : List (List Int)) (rows cols : List Int) : Option (List (List Int)) := rows.mapM fun i => rowO t cols i
noncomputable def setsN (n : Nat) (c : Int) : List (List Int) := (setsL n).filter fun s => (s.length : Int) == c
noncomputable def pairsN (ss : List (List Int)) : List (List Int × List Int) := ss.flatMap fun rows => (ss.filter fun cols => leInts rows cols).map fun cols => (rows, cols)
noncomputable def divStep (t : List (List Int)) (told : List Int) (c : Int) : Option (Sum (List Int) PV) :=
  ((pairsN (setsN t.length c)).mapM fun p => partO t p.1 p.2).bind fun parts => (parts.mapM (detF 7)).bind fun ds => (commonF ds).bind fun g => if told.length < 20 then some (.inl (told ++ [g])) else Option.none
noncomputable def divF (t : List (List Int)) : Option (List Int) := if t.length <= 10 then match foldO (divStep t) [] ((List.range t.length).map fun (k : Nat) => 1 + (k : Int)) with
  | some (.inl l) => some l
  | _ => Option.none
  else Option.none

theorem turns_mapM {α β : Type} {f : PV -> Option (List PV)} {enc : α -> PV} {g : α -> Option β} {ec : β -> PV} : ∀ (l : List α) (l' : List β), l.mapM g = some l' -> (∀ a b, a ∈ l -> g a = some b -> f (enc a) = some [ec b]) -> turns f (l.map enc) = some (l'.map ec)
  | [], l', h, _ => by simp at h; subst h; rfl
  | a :: l, l', h, H => by
    simp only [List.mapM_cons, Option.bind_eq_bind, Option.pure_def] at h
    refine cps fun U J => ?_
    obtain ⟨b, hb, h⟩ := Option.bind_eq_some_iff.mp h
    obtain ⟨bs, hbs, h⟩ := Option.bind_eq_some_iff.mp h
    refine J ?_; clear J U
    cases h
    simp only [List.map_cons, turns, H a b List.mem_cons_self hb, bind_s, turns_mapM l bs hbs fun a b ha => H a b (List.mem_cons_of_mem _ ha)]
    rfl
theorem mapM_length {α β : Type} {g : α -> Option β} : ∀ {l : List α} {l' : List β}, l.mapM g = some l' -> l'.length = l.length
  | [], l', h => by simp at h; subst h; rfl
  | a :: l, l', h => by
    simp only [List.mapM_cons, Option.bind_eq_bind, Option.pure_def] at h
    refine cps fun U J => ?_
    obtain ⟨b, hb, h⟩ := Option.bind_eq_some_iff.mp h
    obtain ⟨bs, hbs, h⟩ := Option.bind_eq_some_iff.mp h
    refine J ?_; clear J U
    cases h
    simp [mapM_length hbs]
theorem sub_pick {α : Type} {enc : α -> PV} {l : List α} {i : Int} {a : α} (h : pick? l i = some a) : subsc (.lst (l.map enc)) (.int i) = some (enc a) := by
  unfold pick? at h
  split at h
  . rename_i hi
    have hlt := (List.getElem?_eq_some_iff.mp h).1
    have q := tn (n := 1000) hi
    rw [<- q.2, sub_l _ _ (by simpa using hlt) (Nat.lt_trans q.1 (by decide)), List.getElem?_map, h]
    rfl
  . cases h

noncomputable def s24 : Stmt := nth (bd 24) 1
noncomputable def I24 (t : List (List Int)) (told : List Int) (r : Internal.Loc) : Prop := r "table" = some (.pv (encT t)) /\ r "told" = some (.own (told.map .int)) /\ told.length <= 20

theorem setsL_length (n : Nat) : (setsL n).length = 2 ^ n := by simp [setsL]

theorem setsL_mem {n : Nat} {s : List Int} (h : s ∈ setsL n) : s.length <= n := by
  simp only [setsL, List.mem_map] at h
  refine cps fun U J => ?_
  obtain ⟨m, _, rfl⟩ := h
  refine J ?_; clear J U
  simp only [List.length_map]
  exact Nat.le_trans (List.length_filter_le _ _) (by simp)
theorem mapM_some {α β : Type} {g : α -> Option β} (d : β) : ∀ {l : List α} {l' : List β}, l.mapM g = some l' -> l' = l.map (fun a => (g a).getD d) /\ ∀ a ∈ l, g a = some ((g a).getD d)
  | [], l', h => by simp at h; subst h; exact ⟨rfl, fun y_ h => by cases h⟩
  | a :: l, l', h => by
    simp only [List.mapM_cons, Option.bind_eq_bind, Option.pure_def] at h
    refine cps fun U J => ?_
    obtain ⟨b, hb, h⟩ := Option.bind_eq_some_iff.mp h
    obtain ⟨bs, hbs, h⟩ := Option.bind_eq_some_iff.mp h
    refine J ?_; clear J U
    cases h
    obtain ⟨h1, h2⟩ := mapM_some d hbs
    refine ⟨by simp [hb, h1], fun x hx => ?_⟩
    rcases List.mem_cons.mp hx with rfl | hx
    . rw [hb]; rfl
    . exact h2 x hx
theorem pow10 {n : Nat} (h : n <= 10) : 2 ^ n <= 1024 := pow_le h
theorem pairs_len (ss : List (List Int)) (h : ss.length <= 1024) : (pairsN ss).length <= 1024 * 1024 := by
  have aux : ∀ l : List (List Int), (l.flatMap fun rows => (ss.filter fun cols => leInts rows cols).map fun cols => (rows, cols)).length <= l.length * 1024 := by
    intro l
    induction l with
    | nil => simp
    | cons a l ih =>
      simp only [List.flatMap_cons, List.length_append, List.length_map, List.length_cons]
      have := List.length_filter_le (fun cols => leInts a cols) ss
      rw [Nat.succ_mul, Nat.add_comm]; exact Nat.add_le_add ih (Nat.le_trans this (by assumption))
  have := aux ss
  unfold pairsN
  exact Nat.le_trans this (Nat.le_trans (Nat.mul_le_mul_right 1024 (by assumption)) (by decide))

theorem it_S {s : List Int} : iterOf (encS s) = some (s.map .int) := rfl
theorem le_S {a b : List Int} : cmp .LtE (encS a) (encS b) = some (leInts a b) := x_le_ll
theorem mapO_s {α β : Type} {f : α -> β} {a : α} : Option.map f (some a) = some (f a) := rfl

theorem div_step {t : List (List Int)} (ht : t.length <= 10) (told : List Int) (c : Int) (r : Internal.Loc) (x : Sum (List Int) PV) (hI : I24 t told r) (hs : divStep t told c = some x) :
    ∃ out, (do let r' <- bindT (scp 24) (targetOf s24) (.int c) r; Internal.execs (od 7) (scp 24) (bodyOf s24) r') = some out /\ Good (I24 t) x out := by
  have hb : bindT (scp 24) (targetOf s24) (.int c) r = some (up "count" (.pv (.int c)) r) := by rfl
  rw [hb, bind_s]
  obtain ⟨h1, h2, h3⟩ := hI
  unfold divStep at hs
  refine cps fun U J => ?_
  obtain ⟨parts, hp, hs⟩ := Option.bind_eq_some_iff.mp hs
  obtain ⟨ds, hd, hs⟩ := Option.bind_eq_some_iff.mp hs
  obtain ⟨g, hg, hs⟩ := Option.bind_eq_some_iff.mp hs
  refine J ?_; clear J U
  split at hs <;> cases hs
  rename_i hlt
  have e : bodyOf s24 = [nth (bodyOf s24) 0, nth (bodyOf s24) 1, nth (bodyOf s24) 2] := by rfl
  rw [e]
  have a1 : (od 7).fn "_law_sets" [.int t.length] = some (.lst ((setsL t.length).map encS)) := by
    rw [od_fn (by decide), o3_o2 (by decide), o2_sets]; exact sets_eq o1 _ ht
  have a2 : bf .len [encT t] = some (.int t.length) := by
    have := len_l (t.map encR) (by rw [List.length_map]; exact le_w (by assumption) (by decide))
    simpa [encT] using this
  have x0 : Internal.exec (od 7) (scp 24) (nth (bodyOf s24) 0) (up "count" (.pv (.int c)) r) = some (.next (up "sets" (.pv (.lst ((setsN t.length c).map encS))) (frz [("some" : Str)] (up "count" (.pv (.int c)) r)))) := by
    (generalize hsy : (nth (bodyOf s24) 0) = Sy; (conv at hsy => (lhs; whnf)); subst hsy)
    refine k_asg (k_an (u := .lst ((setsN t.length c).map encS)) rfl (by decide) ?_)
    refine k_comp (u := .lst ((setsL t.length).map encS)) ?_ iter_l (by decide) (turns_filter (q := fun s => (s.length : Int) == c) (g := encS) (setsL t.length) fun s hs => k_if1 (v := .bool ((s.length : Int) == c)) (by decide) ?_ tr_b ?_) (by
      have := List.length_filter_le (fun s => (s.length : Int) == c) (setsL t.length)
      rw [setsL_length] at this
      have h2 := pow10 ht
      rw [List.length_map]
      exact Nat.le_trans this (Nat.le_trans h2 (by decide)))
    . fail "x"
    . have := setsL_mem hs
      have e1 : bf .len [encS s] = some (.int s.length) := enc_len (a := s) (le_w (Nat.le_trans (by assumption) (by assumption)) (by decide))
      fail "x"
    . fail "x"
  rw [execs_next x0]
  generalize hss : setsN t.length c = ss at *
  have hsl : ss.length <= 1024 := by
    rw [<- hss]
    have := List.length_filter_le (fun s => (s.length : Int) == c) (setsL t.length)
    rw [setsL_length] at this
    have h2 := pow10 ht
    unfold setsN; lia
  have hsm : ∀ s ∈ ss, s.length <= 10 := fun s hs => by
    rw [<- hss] at hs
    have := setsL_mem (List.mem_filter.mp hs).1
    lia
  obtain ⟨hpe, hps⟩ := mapM_some (d := []) hp
  have x1 : Internal.exec (od 7) (scp 24) (nth (bodyOf s24) 1) (up "sets" (.pv (.lst (ss.map encS))) (frz [("some" : Str)] (up "count" (.pv (.int c)) r))) = some (.next (up "parts" (.pv (.lst (parts.map encT))) (up "sets" (.pv (.lst (ss.map encS))) (frz [("some" : Str)] (up "count" (.pv (.int c)) r))))) := by
    (generalize hsy : (nth (bodyOf s24) 1) = Sy; (conv at hsy => (lhs; whnf)); subst hsy)
    have e1 : (ss.flatMap fun rows => (ss.filter fun cols => leInts rows cols).map fun cols => encT ((partO t rows cols).getD [])) = parts.map encT := by
      rw [hpe]; simp [pairsN, List.map_flatMap, Function.comp_def]
    refine k_asg (k_an0 (u := .lst (parts.map encT)) rfl rfl (by decide) ?_)
    rw [<- e1]
    refine k_comp (u := .lst (ss.map encS)) ?_ iter_l (by decide) (turns_map (g := fun rows => (ss.filter fun cols => leInts rows cols).map fun cols => encT ((partO t rows cols).getD [])) ss fun rows hrows => k_two (v := .lst (ss.map encS)) (by decide) ?_ iter_l rfl rfl
      (turns_filter (q := fun cols => leInts rows cols) (g := fun cols => encT ((partO t rows cols).getD [])) ss fun cols hcols => k_if2 (v := .bool (leInts rows cols)) (by decide) ?_ tr_b fun hle => ?_)) (by
        have := pairs_len ss hsl
        rw [e1, List.length_map, mapM_length hp]; simp only [wide]; lia)
    . fail "x"
    . fail "x"
    . have l1 := @le_S rows cols
      fail "x"
    . have hq := hsm rows hrows
      have hq2 := hsm cols hcols
      have hmem : (rows, cols) ∈ pairsN ss := by
        simp only [pairsN, List.mem_flatMap, List.mem_map, List.mem_filter]
        exact ⟨rows, hrows, cols, ⟨hcols, hle⟩, rfl⟩
      have hpo := hps _ hmem
      generalize (partO t rows cols).getD [] = part at hpo ⊢
      have hpo' : rows.mapM (fun i => rowO t cols i) = some part := hpo
      refine k_comp (u := encS rows) ?_ iter_l (by decide) (turns_mapM (ec := encR) rows part hpo' fun i row hi hrow => k_one (by decide) ?_) (by rw [List.length_map, mapM_length hpo']; simp only [wide]; lia)
      . fail "x"
      . unfold rowO at hrow
        obtain ⟨tr, htr, hrow⟩ := Option.bind_eq_some_iff.mp hrow
        have q1 : subsc (encT t) (.int i) = some (encR tr) := sub_pick htr
        refine k_comp (u := encS cols) ?_ iter_l (by decide) (turns_mapM (ec := PV.int) cols row hrow fun j v hj hv => k_one (by decide) ?_) (by rw [List.length_map, mapM_length hrow]; exact le_w (by assumption) (by decide))
        . fail "x"
        . have q2 : subsc (encR tr) (.int j) = some (.int v) := sub_pick hv
          fail "x"
  rw [execs_next x1]
  have hpl : parts.length <= wide := by
    have := pairs_len ss hsl
    rw [mapM_length hp]; simp only [wide]; lia
  have b1 : (od 7).fn "_law_common" [.lst (ds.map .int)] = some (.int g) := by
    rw [od_fn (by decide), o3_o2 (by decide), o2_common]; exact common_eq o1 (by decide) _ _ hg
  refine ⟨.next (up "told" (.own ((told ++ [g]).map .int)) (frz [("part" : Str)] (up "parts" (.pv (.lst (parts.map encT))) (up "sets" (.pv (.lst (ss.map encS))) (frz [("some" : Str)] (up "count" (.pv (.int c)) r)))))), execs_one ?_, ?_⟩
  . (generalize hsy : (nth (bodyOf s24) 2) = Sy; (conv at hsy => (lhs; whnf)); subst hsy)
    have hl' : (told.map PV.int).length < wide := by rw [List.length_map]; exact Nat.lt_of_le_of_lt (by assumption) (by decide)
    rw [List.map_append]
    refine k_app (l := told.map .int) (u := .int g) (by decide) ?_ ?_ hl'
    . with_reducible apply k_call
      . decide
      . with_reducible apply k_s1
        . exact rfl
        . refine k_comp (u := .lst (parts.map encT)) ?_ iter_l (by decide) (turns_mapM (ec := PV.int) parts ds hd fun p d hp hd => k_one (by decide) ?_) (by rw [List.length_map, mapM_length hd]; exact hpl)
          . fail "x"
          . have q1 := det_eq 7 p d hd
            fail "x"
        . fail "x"
      . fail "x"
    . specialize h2
  . exact ⟨by specialize h1, by fail "x", by simp; lia⟩

set_option tactic.hygienic true in
theorem div_eq {t : List (List Int)} {l : List Int} (h : divF t = some l) : cf (od 7) 24 ["table"] [encT t] = some (encR l) := by
  unfold divF at h
  split at h
  . rename_i ht
    split at h
    . rename_i l' hd
      cases h
      refine callF_of rfl ?_
      have e : bd 24 = [nth (bd 24) 0, s24, nth (bd 24) 2] := by rfl
      rw [e]
      have h0 : Internal.exec (od 7) (scp 24) (nth (bd 24) 0) (upAll ["table"] [encT t] fun y_ => Option.none) = some (.next (up "told" (.own []) (upAll ["table"] [encT t] fun y_ => Option.none))) := by
        (generalize hsy : (nth (bd 24) 0) = Sy; (conv at hsy => (lhs; whnf)); subst hsy)
        fail "x"
      rw [execs_next h0]
      obtain ⟨out, h1, h2⟩ := for_fold (I := I24 t) (enc := PV.int) (F := fun p r => do let r' <- bindT (scp 24) (targetOf s24) p r; Internal.execs (od 7) (scp 24) (bodyOf s24) r') (f := divStep t)
        (fun told k r x hI hs => div_step ht told k r x hI hs) _ _ (frz (esc (iterE s24)) (up "told" (.own []) (upAll ["table"] [encT t] fun y_ => Option.none))) _ (by
          (generalize hsy : (iterE s24) = Sy; (conv at hsy => (lhs; whnf)); subst hsy)
          exact of_frz rfl ⟨by fail "x", by fail "x", by simp⟩) hd
      rw [List.map_map] at h1
      have hr : rngList 1 ((t.length : Int) + 1) 1 = (List.range t.length).map (PV.int ∘ fun (k : Nat) => 1 + (k : Int)) := rng_eq 1 _ t.length (Int.add_sub_cancel _ _)
      rw [<- hr, <- exec_for' (p := Stmt.pos s24) (by rfl) (x := .rng 1 ((t.length : Int) + 1) 1) (by
        (generalize hsy : (iterE s24) = Sy; (conv at hsy => (lhs; whnf)); subst hsy)
        have e1 : bf .len [encT t] = some (.int t.length) := by
          have := len_l (t.map encR) (by rw [List.length_map]; exact le_w (by assumption) (by decide))
          simpa [encT] using this
        have e2 := @bf_range2 1 ((t.length : Int) + 1) (tiny2 (by decide) (tiny_n (n := t.length + 1) (Nat.succ_le_succ (by assumption)) (by decide)))
        fail "x") rfl] at h1
      cases out with
      | ret p => exact h2.elim
      | next r' =>
        rw [execs_next h1]
        refine execs_ret ?_
        have hI : r' "told" = some (.own (l.map .int)) := h2.2.1
        (generalize hsy : (nth (bd 24) 2) = Sy; (conv at hsy => (lhs; whnf)); subst hsy)
        show _ = some (Out.ret (PV.lst (l.map .int)))
        fail "x"
    . cases h
  . cases h
end

section
open PySem

noncomputable def prodStep (ls : List Int) (p : Int) (k : Int) : Option (Sum Int PV) := (pick? ls k).bind fun x => (mulO p x).map .inl
noncomputable def prodF (ls s : List Int) : Option Int := match foldO (prodStep ls) 1 s with
  | some (.inl p) => some p
  | _ => Option.none
noncomputable def sumO (ls s : List Int) : Option Int := (s.mapM fun k => pick? ls k).map List.sum
noncomputable def setStep (ls : List Int) (c : Int) (nums : List Int) (s : List Int) : Option (Sum (List Int) PV) :=
  (prodF ls s).bind fun p => (sumO ls s).bind fun q => (mulO p q).bind fun pq =>
    if nums.length <= 1000 then some (.inl (nums ++ (if ((s.length : Int) == c) = true then [p] else []) ++ (if ((s.length : Int) == c - 1) = true then [pq] else []))) else Option.none
noncomputable def dueStep (ls : List Int) (due : List Int) (k : Nat) : Option (Sum (List Int) PV) :=
  match foldO (setStep ls (2 + k)) [] (setsL ls.length) with
  | some (.inl nums) => (commonF nums).bind fun g => if k <= 10 /\ due.length <= 20 then (mulO (2 ^ k) g).map fun x => .inl (due ++ [x]) else Option.none
  | _ => Option.none
noncomputable def dueF (ls : List Int) : Option (List Int) := if ls.length <= 10 then (commonF ls).bind fun g => match foldO (dueStep ls) [g] (List.range ls.length) with
  | some (.inl l) => some l
  | _ => Option.none
  else Option.none

noncomputable def s25 : Stmt := nth (bd 25) 1
noncomputable def t25 : Stmt := nth (bodyOf s25) 1
noncomputable def u25 : Stmt := nth (bodyOf t25) 1
structure D25 (ls due : List Int) (c : Int) (nums : List Int) (r : Internal.Loc) : Prop where
  a : r "lengths" = some (.pv (.lst (ls.map .int)))
  b : r "due" = some (.own (due.map .int))
  c : r "count" = some (.pv (.int c))
  d : r "numbers" = some (.own (nums.map .int))
structure E25 (ls due : List Int) (c : Int) (nums s : List Int) (p : Int) (r : Internal.Loc) : Prop extends D25 ls due c nums r where
  e : r "some" = some (.pv (encS s))
  f : r "product" = some (.pv (.int p))

theorem len_S {s : List Int} (h : s.length <= wide) : bf .len [encS s] = some (.int s.length) := enc_len h

theorem prod_loop {ls due : List Int} {c : Int} {nums s : List Int} {p : Int} {r : Internal.Loc} (hs : foldO (prodStep ls) 1 s = some (.inl p)) (hI : E25 ls due c nums s 1 r) :
    ∃ r', Internal.exec o2 (scp 25) u25 r = some (.next r') /\ E25 ls due c nums s p r' := by
  obtain ⟨out, h1, h2⟩ := for_fold (I := E25 ls due c nums s) (enc := PV.int) (F := fun p r => do let r' <- bindT (scp 25) (targetOf u25) p r; Internal.execs o2 (scp 25) (bodyOf u25) r') (f := prodStep ls)
    (fun p k r x hI hs => by
      unfold prodStep at hs
      refine cps fun U J => ?_
      obtain ⟨v, hv, hs⟩ := Option.bind_eq_some_iff.mp hs
      obtain ⟨q, hq, rfl⟩ := Option.map_eq_some_iff.mp hs
      refine J ?_; clear J U
      have hb : bindT (scp 25) (targetOf u25) (.int k) r = some (up "k" (.pv (.int k)) r) := by rfl
      rw [hb, bind_s]
      (generalize hsy : (bodyOf u25) = Sy; (conv at hsy => (lhs; whnf)); subst hsy)
      have a1 := sub_pick (enc := PV.int) hv
      have a2 := mulO_bin hq
      have z1 := hI.a
      have z2 := hI.f
      apply go_o
      . fail "x"
      . exact ⟨⟨by specialize hI.a, by specialize hI.b, by specialize hI.c, by specialize hI.d⟩, by specialize hI.e, by fail "x"⟩)
    s 1 (frz (esc (iterE u25)) r) _ (by
      (generalize hsy : (iterE u25) = Sy; (conv at hsy => (lhs; whnf)); subst hsy)
      exact ⟨⟨by specialize hI.a, by specialize hI.b, by specialize hI.c, by specialize hI.d⟩, by specialize hI.e, by specialize hI.f⟩) hs
  rw [<- exec_for' (p := Stmt.pos u25) (by rfl) (x := encS s) (by
    (generalize hsy : (iterE u25) = Sy; (conv at hsy => (lhs; whnf)); subst hsy)
    have zy0 := hI.e
    fail "x") rfl] at h1
  cases out with
  | ret p => exact h2.elim
  | next r' => exact ⟨r', h1, h2⟩

theorem set_step {ls due : List Int} {c : Int} (nums : List Int) (s : List Int) (hsl : s.length <= 20) (r : Internal.Loc) (x : Sum (List Int) PV) (hI : D25 ls due c nums r) (hs : setStep ls c nums s = some x) :
    ∃ out, (do let r' <- bindT (scp 25) (targetOf t25) (encS s) r; Internal.execs o2 (scp 25) (bodyOf t25) r') = some out /\ Good (D25 ls due c) x out := by
  have hb : bindT (scp 25) (targetOf t25) (encS s) r = some (up "some" (.pv (encS s)) r) := by rfl
  rw [hb, bind_s]
  unfold setStep at hs
  refine cps fun U J => ?_
  obtain ⟨p, hp, hs⟩ := Option.bind_eq_some_iff.mp hs
  obtain ⟨q, hq, hs⟩ := Option.bind_eq_some_iff.mp hs
  obtain ⟨pq, hpq, hs⟩ := Option.bind_eq_some_iff.mp hs
  refine J ?_; clear J U
  split at hs <;> cases hs
  rename_i hnl
  have e : bodyOf t25 = [nth (bodyOf t25) 0, u25, nth (bodyOf t25) 2, nth (bodyOf t25) 3] := by rfl
  rw [e]
  have x0 : Internal.exec o2 (scp 25) (nth (bodyOf t25) 0) (up "some" (.pv (encS s)) r) = some (.next (up "product" (.pv (.int 1)) (up "some" (.pv (encS s)) r))) := by
    (generalize hsy : (nth (bodyOf t25) 0) = Sy; (conv at hsy => (lhs; whnf)); subst hsy)
    fail "x"
  rw [execs_next x0]
  unfold prodF at hp
  split at hp <;> cases hp
  rename_i hfold
  obtain ⟨r1, x1, I1⟩ := prod_loop (due := due) (c := c) (nums := nums) (r := up "product" (.pv (.int 1)) (up "some" (.pv (encS s)) r)) hfold
    ⟨⟨by specialize hI.a, by specialize hI.b, by specialize hI.c, by specialize hI.d⟩, by fail "x", by fail "x"⟩
  rw [execs_next x1]
  have l1 := len_S (s := s) (le_w (by assumption) (by decide))
  have x2 : ∃ r2, Internal.exec o2 (scp 25) (nth (bodyOf t25) 2) r1 = some (.next r2) /\ E25 ls due c (nums ++ (if ((s.length : Int) == c) = true then [p] else [])) s p r2 := by
    (generalize hsy : (nth (bodyOf t25) 2) = Sy; (conv at hsy => (lhs; whnf)); subst hsy)
    cases hc : ((s.length : Int) == c) with
    | true =>
      have z1 := I1.e
      have z2 := I1.c
      have z3 := I1.f
      have z4 := I1.d
      have hl' : (nums.map PV.int).length < wide := by rw [List.length_map]; exact Nat.lt_of_le_of_lt (by assumption) (by decide)
      apply go_n
      . fail "x"
      . exact ⟨⟨by specialize I1.a, by specialize I1.b, by specialize I1.c, by refine up_same.trans ?_; simp⟩, by specialize I1.e, by specialize I1.f⟩
    | false =>
      have zz0 := I1.e
      have zz1 := I1.c
      first | apply go_n | apply go_ns
      . fail "x"
      . rw [if_neg (by decide), List.append_nil]; exact I1
  obtain ⟨r2, x2, I2⟩ := x2
  rw [execs_next x2]
  generalize hn2 : nums ++ (if ((s.length : Int) == c) = true then [p] else []) = n2 at I2 ⊢
  have hn2l : n2.length <= 1001 := by rw [<- hn2]; split <;> simp <;> lia
  have x3 : ∃ r3, Internal.exec o2 (scp 25) (nth (bodyOf t25) 3) r2 = some (.next r3) /\ D25 ls due c (n2 ++ (if ((s.length : Int) == c - 1) = true then [pq] else [])) r3 := by
    (generalize hsy : (nth (bodyOf t25) 3) = Sy; (conv at hsy => (lhs; whnf)); subst hsy)
    cases hc : ((s.length : Int) == c - 1) with
    | true =>
      unfold sumO at hq
      refine cps fun U J => ?_
      obtain ⟨vs, hvs, rfl⟩ := Option.map_eq_some_iff.mp hq
      refine J ?_; clear J U
      have b1 : bf .sum [.lst (vs.map .int)] = some (.int vs.sum) := by rw [bf_sum]; simp only [ints_map]; rfl
      have b2 := mulO_bin hpq
      have z1 := I2.e
      have z2 := I2.c
      have z3 := I2.f
      have z4 := I2.d
      have hl' : (n2.map PV.int).length < wide := by rw [List.length_map]; exact Nat.lt_of_le_of_lt (by assumption) (by decide)
      apply go_n
      . with_reducible apply k_sT
        . fail "x"
        . exact tr_h hc
        . with_reducible apply k_x1
          . with_reducible apply k_app
            . decide
            . with_reducible apply k_bin
              . fail "x"
              . with_reducible apply k_call
                . decide
                . with_reducible apply k_s1
                  . exact rfl
                  . refine k_comp (u := encS s) ?_ iter_l (by decide) (turns_mapM (ec := PV.int) s vs hvs fun k v y_ hv => k_one (by decide) ?_) (by rw [List.length_map, mapM_length hvs]; exact le_w (by assumption) (by decide))
                    . fail "x"
                    . have q1 := sub_pick (enc := PV.int) hv
                      have z5 := I2.a
                      fail "x"
                  . fail "x"
                . fail "x"
              . fail "x"
            . fail "x"
            . fail "x"
          . fail "x"
      . exact ⟨by specialize I2.a, by specialize I2.b, by specialize I2.c, by refine up_same.trans ?_; simp⟩
    | false =>
      have zz0 := I2.e
      have zz1 := I2.c
      first | apply go_n | apply go_ns
      . fail "x"
      . rw [if_neg (by decide), List.append_nil]; exact I2.toD25
  obtain ⟨r3, x3, I3⟩ := x3
  exact ⟨.next r3, execs_one x3, I3⟩

structure J25 (ls due : List Int) (r : Internal.Loc) : Prop where
  a : r "lengths" = some (.pv (.lst (ls.map .int)))
  b : r "due" = some (.own (due.map .int))
theorem pow_two {k : Nat} (h : k <= 10) : bin .Pow (.int 2) (.int (2 + (k : Int) - 2)) = some (.int (2 ^ k)) := by
  have e : 2 + (k : Int) - 2 = (k : Int) := by rw [Int.add_comm, Int.add_sub_cancel]
  rw [e]; exact two_pow h
set_option tactic.hygienic true in
theorem due_step {ls : List Int} (hl : ls.length <= 10) (due : List Int) (k : Nat) (r : Internal.Loc) (x : Sum (List Int) PV) (hI : J25 ls due r) (hs : dueStep ls due k = some x) :
    ∃ out, (do let r' <- bindT (scp 25) (targetOf s25) (.int (2 + (k : Int))) r; Internal.execs o2 (scp 25) (bodyOf s25) r') = some out /\ Good (J25 ls) x out := by
  have hb : bindT (scp 25) (targetOf s25) (.int (2 + (k : Int))) r = some (up "count" (.pv (.int (2 + (k : Int)))) r) := by rfl
  rw [hb, bind_s]
  unfold dueStep at hs
  split at hs
  . rename_i nums hfold
    obtain ⟨g, hg, hs⟩ := Option.bind_eq_some_iff.mp hs
    split at hs
    . rename_i hk
      refine cps fun U J => ?_
      obtain ⟨m, hm, rfl⟩ := Option.map_eq_some_iff.mp hs
      refine J ?_; clear J U
      have e : bodyOf s25 = [nth (bodyOf s25) 0, t25, nth (bodyOf s25) 2] := by rfl
      rw [e]
      have x0 : Internal.exec o2 (scp 25) (nth (bodyOf s25) 0) (up "count" (.pv (.int (2 + (k : Int)))) r) = some (.next (up "numbers" (.own []) (up "count" (.pv (.int (2 + (k : Int)))) r))) := by
        (generalize hsy : (nth (bodyOf s25) 0) = Sy; (conv at hsy => (lhs; whnf)); subst hsy)
        fail "x"
      rw [execs_next x0]
      obtain ⟨out, h1, h2⟩ := for_mem (I := fun (nums : List Int) (r : Internal.Loc) => D25 ls due (2 + (k : Int)) nums r) (enc := encS) (F := fun p r => do let r' <- bindT (scp 25) (targetOf t25) p r; Internal.execs o2 (scp 25) (bodyOf t25) r') (f := setStep ls (2 + (k : Int)))
        (setsL ls.length) (fun s hs nums r x hI hx => set_step nums s (Nat.le_trans (setsL_mem hs) (Nat.le_trans (by assumption) (by decide))) r x hI hx)
        [] (frz (esc (iterE t25)) (up "numbers" (.own []) (up "count" (.pv (.int (2 + (k : Int)))) r))) (.inl nums) (by
          (generalize hsy : (iterE t25) = Sy; (conv at hsy => (lhs; whnf)); subst hsy)
          exact ⟨by specialize hI.a, by specialize hI.b, by fail "x", by fail "x"⟩) hfold
      have a1 : o2.fn "_law_sets" [.int ls.length] = some (.lst ((setsL ls.length).map encS)) := by rw [o2_sets]; exact sets_eq o1 _ hl
      have a2 := enc_len (a := ls) (le_w (by assumption) (by decide))
      rw [<- exec_for' (p := Stmt.pos t25) (by rfl) (x := .lst ((setsL ls.length).map encS)) (by
        (generalize hsy : (iterE t25) = Sy; (conv at hsy => (lhs; whnf)); subst hsy)
        have zy0 := hI.a
        fail "x") rfl] at h1
      cases out with
      | ret p => exact h2.elim
      | next r1 =>
        rw [execs_next h1]
        have I1 : D25 ls due (2 + (k : Int)) nums r1 := h2
        have b1 : o2.fn "_law_common" [.lst (nums.map .int)] = some (.int g) := by rw [o2_common]; exact common_eq o1 (by decide) _ _ hg
        have b2 := pow_two hk.1
        have b3 := mulO_bin hm
        have x2 : ∃ r2, Internal.exec o2 (scp 25) (nth (bodyOf s25) 2) r1 = some (.next r2) /\ J25 ls (due ++ [m]) r2 := by
          (generalize hsy : (nth (bodyOf s25) 2) = Sy; (conv at hsy => (lhs; whnf)); subst hsy)
          have z1 := I1.c
          have z2 := I1.d
          have z3 := I1.b
          have hl' : (due.map PV.int).length < wide := by simp only [List.length_map, wide]; lia
          apply go_n
          . fail "x"
          . exact ⟨by specialize I1.a, by refine up_same.trans ?_; simp⟩
        obtain ⟨r2, x2, I2⟩ := x2
        exact ⟨.next r2, execs_one x2, I2⟩
    . cases hs
  . cases hs

theorem due_eq {ls l : List Int} (h : dueF ls = some l) : cf o2 25 ["lengths"] [.lst (ls.map .int)] = some (encR l) := by
  unfold dueF at h
  split at h
  . rename_i hl
    obtain ⟨g, hg, h⟩ := Option.bind_eq_some_iff.mp h
    split at h
    . rename_i l' hd
      cases h
      refine callF_of rfl ?_
      have e : bd 25 = [nth (bd 25) 0, s25, nth (bd 25) 2] := by rfl
      rw [e]
      have b1 : o2.fn "_law_common" [.lst (ls.map .int)] = some (.int g) := by rw [o2_common]; exact common_eq o1 (by decide) _ _ hg
      have x0 : ∃ r0, Internal.exec o2 (scp 25) (nth (bd 25) 0) (upAll ["lengths"] [.lst (ls.map .int)] fun y_ => Option.none) = some (.next r0) /\ J25 ls [g] r0 := by
        (generalize hsy : (nth (bd 25) 0) = Sy; (conv at hsy => (lhs; whnf)); subst hsy)
        first | apply go_n | apply go_ns
        . fail "x"
        . exact ⟨by fail "x", by fail "x"⟩
      obtain ⟨r0, x0, I0⟩ := x0
      rw [execs_next x0]
      obtain ⟨out, h1, h2⟩ := for_fold (I := J25 ls) (enc := fun (k : Nat) => PV.int (2 + (k : Int))) (F := fun p r => do let r' <- bindT (scp 25) (targetOf s25) p r; Internal.execs o2 (scp 25) (bodyOf s25) r') (f := dueStep ls)
        (fun due k r x hI hs => due_step hl due k r x hI hs) (List.range ls.length) _ (frz (esc (iterE s25)) r0) _ (by
          (generalize hsy : (iterE s25) = Sy; (conv at hsy => (lhs; whnf)); subst hsy)
          exact of_frz rfl I0) hd
      have hr : rngList 2 ((ls.length : Int) + 2) 1 = (List.range ls.length).map fun (k : Nat) => PV.int (2 + (k : Int)) := rng_eq 2 _ ls.length (Int.add_sub_cancel _ _)
      rw [<- hr, <- exec_for' (p := Stmt.pos s25) (by rfl) (x := .rng 2 ((ls.length : Int) + 2) 1) (by
        (generalize hsy : (iterE s25) = Sy; (conv at hsy => (lhs; whnf)); subst hsy)
        have a2 := enc_len (a := ls) (le_w (by assumption) (by decide))
        have e2 := @bf_range2 2 ((ls.length : Int) + 2) (tiny2 (by decide) (tiny_n (n := ls.length + 2) (Nat.add_le_add_right (by assumption) 2) (by decide)))
        have zy0 := I0.a
        fail "x") rfl] at h1
      cases out with
      | ret p => exact h2.elim
      | next r' =>
        rw [execs_next h1]
        refine execs_ret ?_
        have hI : r' "due" = some (.own (l.map .int)) := h2.b
        (generalize hsy : (nth (bd 25) 2) = Sy; (conv at hsy => (lhs; whnf)); subst hsy)
        show _ = some (Out.ret (PV.lst (l.map .int)))
        fail "x"
    . cases h
  . cases h
end

section
open PySem

noncomputable def S (l : List Nat) : Str := ⟨l.toArray⟩
theorem S_len (l : List Nat) : (S l).length = l.length := by simp [S, Str.length]
theorem S_app (a b : List Nat) : S a ++ S b = S (a ++ b) := by
  show Str.append (S a) (S b) = _
  unfold Str.append S
  simp
theorem S_eq (a b : List Nat) : (S a == S b) = (a == b) := by
  rw [Bool.eq_iff_iff]
  simp [S]

structure PR where
  place : Int
  stop : Int
  name : List Nat
  taken : Int
noncomputable def encP (p : PR) : PV := .tup [.int p.place, .int p.stop, .str (S p.name), .int p.taken]
noncomputable def cands : List (List Nat) := [[97], [98], [99], [100], [101], [102], [103], [104], [97, 98], [98, 99], [99, 100], [100, 101], [101, 102], [102, 103], [103, 104]]
noncomputable def upF (nm : List Nat) : List Nat := nm.map (· - 32)
noncomputable def altF (nm : List Nat) : Nat -> List Nat
  | 0 => nm
  | 1 => []
  | 2 => [120, 121].take nm.length
  | _ => nm
theorem upper_ok : cands.all (fun nm => Txt.upper (S nm) == S (upF nm)) = true := by decide +kernel
theorem upper_S {nm : List Nat} (h : cands.contains nm = true) : bmeth .upper (.str (S nm)) [] = some (.str (S (upF nm))) := by
  have hm := List.contains_iff_mem.mp h
  have h1 := List.all_eq_true.mp upper_ok nm hm
  have h2 : (S nm).length <= 1000 := by
    rw [S_len]
    have : cands.all (fun nm => decide (nm.length <= 1000)) = true := by decide +kernel
    simpa using List.all_eq_true.mp this nm hm
  have h3 : Txt.upper (S nm) = S (upF nm) := by simpa using h1
  show (if (S nm).length <= 1000 then some (PV.str (Txt.upper (S nm))) else Option.none) = _
  rw [if_pos h2, h3]
noncomputable def wordStep (pairs : List PR) (room : Int) (w : List Nat) (k : Nat) : Option (Sum (List Nat) PV) :=
  match pairs[k]? with
  | some p => if cands.contains p.name = true /\ k < 4 /\ w.length <= 1000 then some (.inl (w ++ (if (decide (p.place <= room) && decide (room < p.stop)) = true then upF p.name else altF p.name k))) else Option.none
  | Option.none => Option.none
noncomputable def wordF (pairs : List PR) (room : Int) : Option (List Nat) := if pairs.length <= 10 then match foldO (wordStep pairs room) [] (List.range pairs.length) with
  | some (.inl w) => some w
  | _ => Option.none
  else Option.none

noncomputable def s20 : Stmt := nth (bd 20) 1
structure I20 (pairs : List PR) (room : Int) (w : List Nat) (r : Internal.Loc) : Prop where
  a : r "pairs" = some (.pv (.lst (pairs.map encP)))
  b : r "room" = some (.pv (.int room))
  c : r "word" = some (.pv (.str (S w)))

theorem sl_str_to (x : List Nat) (k : Nat) (h : x.length <= wide) : slice (.str (S x)) .none (.int k) .none = some (.str (S (x.take k))) := by
  have : slice (.str (S x)) .none (.int k) .none = if (S x).length <= wide then some (.str ⟨(cut (S x).cps.toList Option.none (some (k : Int))).toArray⟩) else Option.none := rfl
  rw [this, if_pos (by rw [S_len]; exact h), cut_to]
  simp [S]

set_option tactic.hygienic true in
theorem word_step (pairs : List PR) (room : Int) (w : List Nat) (k : Nat) (r : Internal.Loc) (x : Sum (List Nat) PV) (hI : I20 pairs room w r) (hs : wordStep pairs room w k = some x) :
    ∃ out, (do let r' <- bindT (scp 20) (targetOf s20) (.int k) r; Internal.execs o1 (scp 20) (bodyOf s20) r') = some out /\ Good (I20 pairs room) x out := by
  have hb : bindT (scp 20) (targetOf s20) (.int k) r = some (up "k" (.pv (.int k)) r) := by rfl
  rw [hb, bind_s]
  unfold wordStep at hs
  split at hs
  . rename_i p hp
    split at hs
    . rename_i hc
      cases hs
      obtain ⟨hn, hk, hw⟩ := hc
      have e : bodyOf s20 = [nth (bodyOf s20) 0, nth (bodyOf s20) 1] := by rfl
      rw [e]
      have hlen := (List.getElem?_eq_some_iff.mp hp).1
      have q1 : subsc (.lst (pairs.map encP)) (.int k) = some (encP p) := by
        rw [sub_l _ k (by simpa using hlen) (Nat.lt_trans hk (by decide)), List.getElem?_map, hp]; rfl
      have x0 : ∃ r1, Internal.exec o1 (scp 20) (nth (bodyOf s20) 0) (up "k" (.pv (.int k)) r) = some (.next r1) /\ I20 pairs room w r1 /\ r1 "place" = some (.pv (.int p.place)) /\ r1 "end" = some (.pv (.int p.stop)) /\ r1 "name" = some (.pv (.str (S p.name))) /\ r1 "k" = some (.pv (.int k)) := by
        (generalize hsy : (nth (bodyOf s20) 0) = Sy; (conv at hsy => (lhs; whnf)); subst hsy)
        have z1 := hI.a
        replace q1 : subsc (.lst (pairs.map encP)) (.int k) = some (.tup [.int p.place, .int p.stop, .str (S p.name), .int p.taken]) := q1
        apply go_n
        . fail "x"
        . exact ⟨⟨by specialize hI.a, by specialize hI.b, by specialize hI.c⟩, by fail "x", by fail "x", by fail "x", by fail "x"⟩
      refine cps fun U J => ?_
      obtain ⟨r1, x0, I1, h2, h3, h4, h5⟩ := x0
      refine J ?_; clear J U
      rw [execs_next x0]
      have u1 := upper_S hn
      have nl : p.name.length <= 2 := by
        have : cands.all (fun nm => decide (nm.length <= 2)) = true := by decide +kernel
        simpa using List.all_eq_true.mp this _ (List.contains_iff_mem.mp hn)
      have n1 : bf .len [.str (S p.name)] = some (.int p.name.length) := by
        rw [len_s _ (by rw [S_len]; exact le_w (by assumption) (by decide)), S_len]
      have xy : (Str.ofString "xy") = S [120, 121] := by rfl
      have em : (Str.ofString "") = S [] := by rfl
      have n2 := sl_str_to [120, 121] p.name.length (by decide)
      have n3 : subsc (.lst [.str (S p.name), .str (S []), .str (S ([120, 121].take p.name.length)), .str (S p.name)]) (.int k) = some (.str (S (altF p.name k))) := by
        rw [sub_l _ k (by simpa using hk) (Nat.lt_trans hk (by decide))]
        exact cases4 hk rfl rfl rfl rfl
      have al : (altF p.name k).length <= 2 := by
        have : k = 0 \/ k = 1 \/ k = 2 \/ k = 3 := by lia
        rcases this with h | h | h | h <;> subst h <;> simp [altF] <;> lia
      have ul : (upF p.name).length <= 2 := by simpa [upF] using nl
      have a1 := @y_add_ss (S w) (S (upF p.name)) (by rw [S_len, S_len]; simp only [wide]; lia)
      have a2 := @y_add_ss (S w) (S (altF p.name k)) (by rw [S_len, S_len]; simp only [wide]; lia)
      rw [S_app] at a1 a2
      have x1 : ∃ r2, Internal.exec o1 (scp 20) (nth (bodyOf s20) 1) r1 = some (.next r2) /\ I20 pairs room (w ++ (if (decide (p.place <= room) && decide (room < p.stop)) = true then upF p.name else altF p.name k)) r2 := by
        (generalize hsy : (nth (bodyOf s20) 1) = Sy; (conv at hsy => (lhs; whnf)); subst hsy)
        have z1 := I1.b
        rw [<- xy] at n2
        rw [<- em] at n3
        cases c1 : decide (p.place <= room) with
        | false =>
          have zz0 := I1.c
          first | apply go_n | apply go_ns
          . fail "x"
          . exact ⟨by specialize I1.a, by specialize I1.b, by fail "x"⟩
        | true =>
          cases c2 : decide (room < p.stop) with
          | false =>
            have zz0 := I1.c
            first | apply go_n | apply go_ns
            . fail "x"
            . exact ⟨by specialize I1.a, by specialize I1.b, by fail "x"⟩
          | true =>
            have zz0 := I1.c
            first | apply go_n | apply go_ns
            . fail "x"
            . exact ⟨by specialize I1.a, by specialize I1.b, by fail "x"⟩
      obtain ⟨r2, x1, I2⟩ := x1
      exact ⟨.next r2, execs_one x1, I2⟩
    . cases hs
  . cases hs

set_option tactic.hygienic true in
theorem word_eq {pairs : List PR} {room : Int} {w : List Nat} (h : wordF pairs room = some w) : cf o1 20 ["pairs", "room"] [.lst (pairs.map encP), .int room] = some (.str (S w)) := by
  unfold wordF at h
  split at h
  . rename_i hl
    split at h
    . rename_i w' hd
      cases h
      refine callF_of rfl ?_
      have e : bd 20 = [nth (bd 20) 0, s20, nth (bd 20) 2] := by rfl
      rw [e]
      have em : (Str.ofString "") = S [] := by rfl
      have x0 : ∃ r0, Internal.exec o1 (scp 20) (nth (bd 20) 0) (upAll ["pairs", "room"] [.lst (pairs.map encP), .int room] fun y_ => Option.none) = some (.next r0) /\ I20 pairs room [] r0 := by
        (generalize hsy : (nth (bd 20) 0) = Sy; (conv at hsy => (lhs; whnf)); subst hsy)
        first | apply go_n | apply go_ns
        . fail "x"
        . exact ⟨by fail "x", by fail "x", by fail "x"⟩
      obtain ⟨r0, x0, I0⟩ := x0
      rw [execs_next x0]
      obtain ⟨out, h1, h2⟩ := for_fold (I := I20 pairs room) (enc := fun (k : Nat) => PV.int k) (F := fun p r => do let r' <- bindT (scp 20) (targetOf s20) p r; Internal.execs o1 (scp 20) (bodyOf s20) r') (f := wordStep pairs room)
        (fun w k r x hI hs => word_step pairs room w k r x hI hs) (List.range pairs.length) _ (frz (esc (iterE s20)) r0) _ (by
          (generalize hsy : (iterE s20) = Sy; (conv at hsy => (lhs; whnf)); subst hsy)
          exact of_frz rfl I0) hd
      rw [<- rng_zero, <- exec_for' (p := Stmt.pos s20) (by rfl) (x := .rng 0 pairs.length 1) (by
        (generalize hsy : (iterE s20) = Sy; (conv at hsy => (lhs; whnf)); subst hsy)
        have e1 := len_l (pairs.map encP) (by rw [List.length_map]; exact le_w (by assumption) (by decide))
        simp only [List.length_map] at e1
        have e2 := @bf_range1 (pairs.length : Int) (tiny_n (by assumption) (by decide))
        have zy0 := I0.a
        fail "x") rfl] at h1
      cases out with
      | ret p => exact h2.elim
      | next r' =>
        rw [execs_next h1]
        refine execs_ret ?_
        have hI := h2.c
        (generalize hsy : (nth (bd 20) 2) = Sy; (conv at hsy => (lhs; whnf)); subst hsy)
        fail "x"
    . cases h
  . cases h
end

section
open PySem

noncomputable def okC (c : Nat) : Bool := [97, 98, 99, 100, 101, 102, 103, 104, 65, 66, 67, 68, 69, 70, 71, 72, 120, 121].contains c
noncomputable def lowF (c : Nat) : Nat := if c < 97 then c + 32 else c
theorem lower_ok : [97, 98, 99, 100, 101, 102, 103, 104, 65, 66, 67, 68, 69, 70, 71, 72, 120, 121].all (fun c => Txt.lower (S [c]) == S [lowF c]) = true := by decide +kernel
noncomputable def costF (c d : Nat) : Int := if (c == d) = true then 0 else if (lowF c == lowF d) = true then 1 else 2
theorem cost_eq {c d : Nat} (hc : okC c = true) (hd : okC d = true) : o2.fn "_substitution_cost" [.str (S [c]), .str (S [d])] = some (.int (costF c d)) := by
  have e : o2.fn "_substitution_cost" [.str (S [c]), .str (S [d])] = cf o1 4 ["ch_a", "ch_b"] [.str (S [c]), .str (S [d])] := by
    unfold o2
    rw [ext_ne (by decide), ext_ne (by decide), ext_ne (by decide), ext_ne (by decide), ext_ne (by decide), ext_ne (by decide), ext_ne (by decide), ext_eq]
  have h := subst_eq (S [c]) (S [d]) (by rw [S_len]; simp) (by rw [S_len]; simp)
  have l1 : Txt.lower (S [c]) = S [lowF c] := by simpa using List.all_eq_true.mp lower_ok c (List.contains_iff_mem.mp hc)
  have l2 : Txt.lower (S [d]) = S [lowF d] := by simpa using List.all_eq_true.mp lower_ok d (List.contains_iff_mem.mp hd)
  rw [l1, l2, S_eq, S_eq] at h
  rw [e]
  unfold cf
  rw [h]
  have e1 : ([c] == [d]) = (c == d) := by rw [Bool.eq_iff_iff]; simp
  have e2 : ([lowF c] == [lowF d]) = (lowF c == lowF d) := by rw [Bool.eq_iff_iff]; simp
  rw [e1, e2]
  rfl

theorem truth_S {l : List Nat} (h : l.length <= wide) : truth (.str (S l)) = some (!l.isEmpty) := by
  have : truth (.str (S l)) = if (S l).length <= wide then some ((S l).length != 0) else Option.none := rfl
  rw [this, if_pos (by rw [S_len]; exact h), S_len]
  cases l <;> rfl
theorem sl_str_from (x : List Nat) (k : Nat) (h : x.length <= wide) : slice (.str (S x)) (.int k) .none .none = some (.str (S (x.drop k))) := by
  have : slice (.str (S x)) (.int k) .none .none = if (S x).length <= wide then some (.str ⟨(cut (S x).cps.toList (some (k : Int)) Option.none).toArray⟩) else Option.none := rfl
  rw [this, if_pos (by rw [S_len]; exact h), cut_from]
  simp [S]
theorem sl_str_all (x : List Nat) (h : x.length <= wide) : slice (.str (S x)) .none .none .none = some (.str (S x)) := by
  have : slice (.str (S x)) .none .none .none = if (S x).length <= wide then some (.str ⟨(cut (S x).cps.toList Option.none Option.none).toArray⟩) else Option.none := rfl
  rw [this, if_pos (by rw [S_len]; exact h)]
  simp [S, cut]
theorem sl_str_neg (x : List Nat) (q : Nat) (h : x.length <= wide) : slice (.str (S x)) .none (.int (-((q : Int) + 1))) .none = some (.str (S (x.take (x.length - (q + 1))))) := by
  have : slice (.str (S x)) .none (.int (-((q : Int) + 1))) .none = if (S x).length <= wide then some (.str ⟨(cut (S x).cps.toList Option.none (some (-((q : Int) + 1)))).toArray⟩) else Option.none := rfl
  rw [this, if_pos (by rw [S_len]; exact h)]
  simp [S, cut, clip_neg]
theorem sub_S (x : List Nat) (k c : Nat) (h : x[k]? = some c) (hk : k < 1000000) : subsc (.str (S x)) (.int k) = some (.str (S [c])) := by
  have hl := (List.getElem?_eq_some_iff.mp h).1
  have hs := small_m hk
  have hi : seqIndex? (k : Int) (S x).length = some k := by rw [S_len]; exact seq_nat hl
  have e : (S x).cps[k]? = some c := by simpa [S] using h
  simp only [subsc_l, subsc_t, subsc_s, hs, if_true, item, hi, Option.bind_some, e, Option.map_some]
  rfl
theorem sub_S_neg (x : List Nat) (q c : Nat) (h : x[x.length - 1 - q]? = some c) (hq : q < x.length) (hk : q < 1000000) : subsc (.str (S x)) (.int (-(q : Int) - 1)) = some (.str (S [c])) := by
  have hs : small (-(q : Int) - 1) = true := by unfold small; simp only [Bool.and_eq_true, decide_eq_true_eq, big]; lia
  have hi : seqIndex? (-(q : Int) - 1) (S x).length = some (x.length - 1 - q) := by
    rw [S_len]
    unfold seqIndex?
    have : (-(q : Int) - 1) < 0 := by lia
    have e : (-(q : Int) - 1) + (x.length : Int) = ((x.length - 1 - q : Nat) : Int) := by
      rw [Nat.sub_sub, Nat.add_comm 1 q, Int.ofNat_sub hq, Int.add_comm (-(q : Int) - 1) _, Int.sub_eq_add_neg, Int.sub_eq_add_neg, <- Int.neg_add]; rfl
    have hn : x.length - 1 - q < x.length := Nat.lt_of_le_of_lt (Nat.sub_le _ _) (Nat.sub_lt (Nat.zero_lt_of_lt hq) Nat.one_pos)
    simp only [this, if_true, e]
    exact if_pos (Bool.and_eq_true_iff.mpr ⟨decide_eq_true (Int.natCast_nonneg _), decide_eq_true (Int.ofNat_lt.mpr hn)⟩)
  have e : (S x).cps[x.length - 1 - q]? = some c := by simpa [S] using h
  simp only [subsc_l, subsc_t, subsc_s, hs, if_true, item, hi, Option.bind_some, e, Option.map_some]
  rfl

noncomputable def innerStep (bc : Nat) (a : List Nat) (st : Int × Int × Int × List Int) (i : Nat) : Option (Sum (Int × Int × Int × List Int) PV) :=
  match a[i]?, st.2.2.2[i]? with
  | some c, some d => if okC c = true /\ i <= 100 /\ st.2.2.2.length <= 100 then
      let ins := (if d < st.2.1 then d else st.2.1) + 2
      let sub := st.1 + costF bc c
      let res := if sub < ins then sub else ins
      some (.inl (d, res, (if res < st.2.2.1 then res else st.2.2.1), st.2.2.2.set i res))
    else Option.none
  | _, _ => Option.none
noncomputable def outerStep (a b : List Nat) (mc : Int) (st : Int × List Int) (i : Nat) : Option (Sum (Int × List Int) PV) :=
  match b[i]? with
  | some bc => if okC bc = true /\ i <= 100 then match foldO (innerStep bc a) ((i : Int) * 2, (i : Int) * 2, 9223372036854775807, st.2) (List.range a.length) with
      | some (.inl s) => if mc < s.2.2.1 then some (.inr (.int (mc + 1))) else some (.inl (s.2.1, s.2.2.2))
      | _ => Option.none
    else Option.none
  | Option.none => Option.none
noncomputable def preC (a b : List Nat) (p : Nat) : Bool := !(a.drop p).isEmpty && (!(b.drop p).isEmpty && (a.getD p 0 == b.getD p 0))
noncomputable def cutP (a : List Nat) (q : Nat) : List Nat := match q with
  | 0 => a
  | q + 1 => a.take (a.length - (q + 1))
noncomputable def postC (a b : List Nat) (q : Nat) : Bool := !(cutP a q).isEmpty && (!(cutP b q).isEmpty && (a.getD (a.length - 1 - q) 0 == b.getD (b.length - 1 - q) 0))
noncomputable def cntO (t : Nat -> Bool) : Option Nat := match whileO t (fun p => some (.inl (p + 1))) 50 0 with
  | some (.inl p) => some p
  | _ => Option.none
noncomputable def levG (a b : List Nat) (mc : Int) : Option Int :=
  if mc < ((b.length : Int) - a.length) * 2 then some (mc + 1) else
  match foldO (outerStep a b mc) (0, (List.range a.length).map fun (i : Nat) => 2 + 2 * (i : Int)) (List.range b.length) with
  | some (.inl s) => some s.1
  | some (.inr (.int v)) => some v
  | _ => Option.none
noncomputable def levF (a b : List Nat) (mc : Int) : Option Int :=
  if a.length <= 30 /\ b.length <= 30 then
    if (a == b) = true then some 0 else (cntO (preC a b)).bind fun p => (cntO (postC (a.drop p) (b.drop p))).bind fun q =>
      let a2 := cutP (a.drop p) q
      let b2 := cutP (b.drop p) q
      if (a2.isEmpty || b2.isEmpty) = true then some (2 * ((a2.length : Int) + b2.length)) else
      if b2.length < a2.length then levG b2 a2 mc else levG a2 b2 mc
  else Option.none

noncomputable def s5 (i : Nat) : Stmt := nth (bd 5) i
structure P5 (a b : List Nat) (mc : Int) (r : Internal.Loc) : Prop where
  a : r "a" = some (.pv (.str (S a)))
  b : r "b" = some (.pv (.str (S b)))
  m : r "max_cost" = some (.pv (.int mc))
theorem bd5 : bd 5 = [s5 0, s5 1, s5 2, s5 3, s5 4, s5 5, s5 6, s5 7, s5 8, s5 9, s5 10, s5 11, s5 12, s5 13, s5 14, s5 15, s5 16] := by rfl

noncomputable def s5f : Stmt := s5 15
noncomputable def s5g : Stmt := nth (bodyOf s5f) 3
structure In5 (a b : List Nat) (mc : Int) (bc : Nat) (st : Int × Int × Int × List Int) (r : Internal.Loc) : Prop extends P5 a b mc r where
  c : r "bchar" = some (.pv (.str (S [bc])))
  d : r "distance" = some (.pv (.int st.1))
  e : r "result" = some (.pv (.int st.2.1))
  f : r "minimum" = some (.pv (.int st.2.2.1))
  g : r "row" = some (.own (st.2.2.2.map .int))

theorem gl_move : o2.gl "_MOVE_COST" = some (.int 2) := by rfl
theorem gl_max : o2.gl "_MAX_STRING_SIZE" = some (.int 40) := by rfl
theorem min_ii {i j : Int} : bf .min [.int i, .int j] = some (.int (if j < i then j else i)) := rfl

set_option tactic.hygienic true in
theorem inner5 {a b : List Nat} {mc : Int} {bc : Nat} (hbc : okC bc = true) (st : Int × Int × Int × List Int) (i : Nat) (r : Internal.Loc) (x : Sum (Int × Int × Int × List Int) PV) (hI : In5 a b mc bc st r) (hs : innerStep bc a st i = some x) :
    ∃ out, (do let r' <- bindT (scp 5) (targetOf s5g) (.int i) r; Internal.execs o2 (scp 5) (bodyOf s5g) r') = some out /\ Good (In5 a b mc bc) x out := by
  have hb : bindT (scp 5) (targetOf s5g) (.int i) r = some (up "index" (.pv (.int i)) r) := by rfl
  rw [hb, bind_s]
  refine cps fun U J => ?_
  obtain ⟨di, re, mi, row⟩ := st
  refine J ?_; clear J U
  unfold innerStep at hs
  split at hs
  . rename_i c d hc hd
    split at hs <;> cases hs
    rename_i hok
    obtain ⟨hokc, hi, hrow⟩ := hok
    dsimp only at hd hrow
    have q1 := sub_S a i c hc (lt_m (by assumption) (by decide))
    have q2 := cost_eq hbc hokc
    have hlt := (List.getElem?_eq_some_iff.mp hd).1
    have q3 : subsc (.lst (row.map PV.int)) (.int i) = some (.int d) := by
      rw [sub_l _ i (by simpa using hlt) (lt_m (by assumption) (by decide)), List.getElem?_map, hd]; rfl
    have i1 := hI.d
    have i2 := hI.e
    have i3 := hI.f
    have i4 := hI.g
    dsimp only at i1 i2 i3 i4
    generalize hins : (if d < re then d else re) + 2 = ins
    generalize hsub : di + costF bc c = sub
    have e : bodyOf s5g = [nth (bodyOf s5g) 0, nth (bodyOf s5g) 1, nth (bodyOf s5g) 2, nth (bodyOf s5g) 3, nth (bodyOf s5g) 4, nth (bodyOf s5g) 5] := by rfl
    rw [e]
    have x0 : ∃ r0, Internal.exec o2 (scp 5) (nth (bodyOf s5g) 0) (up "index" (.pv (.int i)) r) = some (.next r0) /\ In5 a b mc bc (di, re, mi, row) r0 /\ r0 "substitute" = some (.pv (.int sub)) /\ r0 "index" = some (.pv (.int i)) := by
      (generalize hsy : (nth (bodyOf s5g) 0) = Sy; (conv at hsy => (lhs; whnf)); subst hsy)
      have zz0 := hI.a
      have zz1 := hI.c
      first | apply go_n | apply go_ns
      . fail "x"
      . exact ⟨⟨⟨by specialize hI.a, by specialize hI.b, by specialize hI.m⟩, by specialize hI.c, by specialize i1, by specialize i2, by specialize i3, by specialize i4⟩, by rw [<- hsub]; fail "x", by fail "x"⟩
    refine cps fun U J => ?_
    obtain ⟨r0, x0, I0, k0, k0'⟩ := x0
    refine J ?_; clear J U
    rw [execs_next x0]
    have x1 : ∃ r1, Internal.exec o2 (scp 5) (nth (bodyOf s5g) 1) r0 = some (.next r1) /\ In5 a b mc bc (d, re, mi, row) r1 /\ r1 "substitute" = some (.pv (.int sub)) /\ r1 "index" = some (.pv (.int i)) := by
      (generalize hsy : (nth (bodyOf s5g) 1) = Sy; (conv at hsy => (lhs; whnf)); subst hsy)
      have j4 := I0.g
      dsimp only at j4
      first | apply go_n | apply go_ns
      . fail "x"
      . exact ⟨⟨⟨by specialize I0.a, by specialize I0.b, by specialize I0.m⟩, by specialize I0.c, by fail "x", by specialize I0.e, by specialize I0.f, by specialize j4⟩, by specialize k0, by specialize k0'⟩
    refine cps fun U J => ?_
    obtain ⟨r1, x1, I1, k1, k1'⟩ := x1
    refine J ?_; clear J U
    rw [execs_next x1]
    have x2 : ∃ r2, Internal.exec o2 (scp 5) (nth (bodyOf s5g) 2) r1 = some (.next r2) /\ In5 a b mc bc (d, re, mi, row) r2 /\ r2 "substitute" = some (.pv (.int sub)) /\ r2 "index" = some (.pv (.int i)) /\ r2 "insert_delete" = some (.pv (.int ins)) := by
      (generalize hsy : (nth (bodyOf s5g) 2) = Sy; (conv at hsy => (lhs; whnf)); subst hsy)
      have j2 := I1.e
      have j1 := I1.d
      dsimp only at j1 j2
      first | apply go_n | apply go_ns
      . fail "x"
      . exact ⟨⟨⟨by specialize I1.a, by specialize I1.b, by specialize I1.m⟩, by specialize I1.c, by specialize j1, by specialize j2, by specialize I1.f, by specialize I1.g⟩, by specialize k1, by specialize k1', by rw [<- hins]; fail "x"⟩
    refine cps fun U J => ?_
    obtain ⟨r2, x2, I2, k2, k2', k2''⟩ := x2
    refine J ?_; clear J U
    rw [execs_next x2]
    generalize hres : (if sub < ins then sub else ins) = res
    have x3 : ∃ r3, Internal.exec o2 (scp 5) (nth (bodyOf s5g) 3) r2 = some (.next r3) /\ In5 a b mc bc (d, res, mi, row) r3 /\ r3 "index" = some (.pv (.int i)) := by
      (generalize hsy : (nth (bodyOf s5g) 3) = Sy; (conv at hsy => (lhs; whnf)); subst hsy)
      first | apply go_n | apply go_ns
      . fail "x"
      . exact ⟨⟨⟨by specialize I2.a, by specialize I2.b, by specialize I2.m⟩, by specialize I2.c, by specialize I2.d, by rw [<- hres]; fail "x", by specialize I2.f, by specialize I2.g⟩, by specialize k2'⟩
    refine cps fun U J => ?_
    obtain ⟨r3, x3, I3, k3⟩ := x3
    refine J ?_; clear J U
    rw [execs_next x3]
    have x4 : ∃ r4, Internal.exec o2 (scp 5) (nth (bodyOf s5g) 4) r3 = some (.next r4) /\ In5 a b mc bc (d, res, mi, row.set i res) r4 := by
      (generalize hsy : (nth (bodyOf s5g) 4) = Sy; (conv at hsy => (lhs; whnf)); subst hsy)
      have j2 := I3.e
      have j4 := I3.g
      dsimp only at j2 j4
      have b3 : 0 <= (i : Int) /\ (i : Int) < (row.map PV.int).length := ⟨Int.natCast_nonneg i, by simp; lia⟩
      have b4 : (row.map PV.int).length <= wide := by simp only [List.length_map, wide]; lia
      apply go_n
      . fail "x"
      . exact ⟨⟨by specialize I3.a, by specialize I3.b, by specialize I3.m⟩, by specialize I3.c, by specialize I3.d, by specialize j2, by specialize I3.f, by rw [List.map_set]; fail "x"⟩
    obtain ⟨r4, x4, I4⟩ := x4
    rw [execs_next x4]
    have x5 : ∃ r5, Internal.exec o2 (scp 5) (nth (bodyOf s5g) 5) r4 = some (.next r5) /\ In5 a b mc bc (d, res, (if res < mi then res else mi), row.set i res) r5 := by
      (generalize hsy : (nth (bodyOf s5g) 5) = Sy; (conv at hsy => (lhs; whnf)); subst hsy)
      have j2 := I4.e
      have j3 := I4.f
      dsimp only at j2 j3
      by_cases hm : res < mi
      . have hm' := decide_eq_true hm
        rw [if_pos hm]
        apply go_n
        . fail "x"
        . exact ⟨⟨by specialize I4.a, by specialize I4.b, by specialize I4.m⟩, by specialize I4.c, by specialize I4.d, by specialize j2, by fail "x", by specialize I4.g⟩
      . have hm' := decide_eq_false hm
        rw [if_neg hm]
        apply go_n
        . fail "x"
        . exact I4
    obtain ⟨r5, x5, I5⟩ := x5
    exact ⟨.next r5, execs_one x5, I5⟩
  . cases hs
end

section
open PySem

structure O5 (a b : List Nat) (mc : Int) (st : Int × List Int) (r : Internal.Loc) : Prop extends P5 a b mc r where
  e : r "result" = some (.pv (.int st.1))
  g : r "row" = some (.own (st.2.map .int))
theorem small_k {i : Int} (h : -1000 <= i /\ i <= 1000) : small i = true := by
  unfold small; simp only [Bool.and_eq_true, decide_eq_true_eq, big]
  exact ⟨Int.lt_of_lt_of_le (by decide) h.1, Int.lt_of_le_of_lt h.2 (by decide)⟩
theorem mul_two' {i : Int} (h : -1000 <= i /\ i <= 1000) : bin .Mult (.int i) (.int 2) = some (.int (i * 2)) := y_mul (by rw [small_k h]; rfl)
theorem mul_two {i : Nat} (h : i <= 1000) : bin .Mult (.int (i : Int)) (.int 2) = some (.int ((i : Int) * 2)) := mul_two' ⟨Int.le_trans (by decide) (Int.natCast_nonneg i), Int.ofNat_le.mpr h⟩
theorem two_mul {i : Int} (h : 0 <= i /\ i <= 1000) : bin .Mult (.int 2) (.int i) = some (.int (2 * i)) := y_mul (by rw [small_k ⟨Int.le_trans (by decide) h.1, h.2⟩]; rfl)
theorem len_Str (l : List Nat) (h : l.length <= wide) : bf .len [.str (S l)] = some (.int l.length) := by rw [len_s _ (by rw [S_len]; exact h), S_len]

set_option tactic.hygienic true in
theorem outer5 {a b : List Nat} {mc : Int} (ha : a.length <= 100) (st : Int × List Int) (i : Nat) (r : Internal.Loc) (x : Sum (Int × List Int) PV) (hI : O5 a b mc st r) (hs : outerStep a b mc st i = some x) :
    ∃ out, (do let r' <- bindT (scp 5) (targetOf s5f) (.int i) r; Internal.execs o2 (scp 5) (bodyOf s5f) r') = some out /\ Good (O5 a b mc) x out := by
  have hb : bindT (scp 5) (targetOf s5f) (.int i) r = some (up "bindex" (.pv (.int i)) r) := by rfl
  rw [hb, bind_s]
  obtain ⟨re, row⟩ := st
  unfold outerStep at hs
  split at hs
  . rename_i bc hbc
    split at hs
    . rename_i hok
      obtain ⟨hokc, hi⟩ := hok
      split at hs
      . rename_i s hfold
        have q1 := sub_S b i bc hbc (lt_m (by assumption) (by decide))
        have q2 := mul_two (i := i) (Nat.le_trans (by assumption) (by decide))
        have i4 := hI.g
        dsimp only at i4 hfold
        have e : bodyOf s5f = [nth (bodyOf s5f) 0, nth (bodyOf s5f) 1, nth (bodyOf s5f) 2, s5g, nth (bodyOf s5f) 4] := by rfl
        rw [e]
        have x0 : ∃ r0, Internal.exec o2 (scp 5) (nth (bodyOf s5f) 0) (up "bindex" (.pv (.int i)) r) = some (.next r0) /\ P5 a b mc r0 /\ r0 "bchar" = some (.pv (.str (S [bc]))) /\ r0 "bindex" = some (.pv (.int i)) /\ r0 "row" = some (.own (row.map .int)) := by
          (generalize hsy : (nth (bodyOf s5f) 0) = Sy; (conv at hsy => (lhs; whnf)); subst hsy)
          have zz0 := hI.b
          first | apply go_n | apply go_ns
          . fail "x"
          . exact ⟨⟨by specialize hI.a, by specialize hI.b, by specialize hI.m⟩, by fail "x", by fail "x", by specialize i4⟩
        obtain ⟨r0, x0, I0, k1, k2, k3⟩ := x0
        rw [execs_next x0]
        have x1 : ∃ r1, Internal.exec o2 (scp 5) (nth (bodyOf s5f) 1) r0 = some (.next r1) /\ P5 a b mc r1 /\ r1 "bchar" = some (.pv (.str (S [bc]))) /\ r1 "row" = some (.own (row.map .int)) /\ r1 "distance" = some (.pv (.int ((i : Int) * 2))) /\ r1 "result" = some (.pv (.int ((i : Int) * 2))) := by
          (generalize hsy : (nth (bodyOf s5f) 1) = Sy; (conv at hsy => (lhs; whnf)); subst hsy)
          first | apply go_n | apply go_ns
          . fail "x"
          . exact ⟨⟨by specialize I0.a, by specialize I0.b, by specialize I0.m⟩, by specialize k1, by specialize k3, by fail "x", by fail "x"⟩
        obtain ⟨r1, x1, I1, k1, k3, k4, k5⟩ := x1
        rw [execs_next x1]
        have x2 : ∃ r2, Internal.exec o2 (scp 5) (nth (bodyOf s5f) 2) r1 = some (.next r2) /\ In5 a b mc bc ((i : Int) * 2, (i : Int) * 2, 9223372036854775807, row) r2 := by
          (generalize hsy : (nth (bodyOf s5f) 2) = Sy; (conv at hsy => (lhs; whnf)); subst hsy)
          first | apply go_n | apply go_ns
          . fail "x"
          . exact ⟨⟨by specialize I1.a, by specialize I1.b, by specialize I1.m⟩, by specialize k1, by specialize k4, by specialize k5, by fail "x", by specialize k3⟩
        obtain ⟨r2, x2, I2⟩ := x2
        rw [execs_next x2]
        obtain ⟨out, h1, h2⟩ := for_fold (I := In5 a b mc bc) (enc := fun (k : Nat) => PV.int k) (F := fun p r => do let r' <- bindT (scp 5) (targetOf s5g) p r; Internal.execs o2 (scp 5) (bodyOf s5g) r') (f := innerStep bc a)
          (fun st i r x hI hs => inner5 hokc st i r x hI hs) (List.range a.length) _ (frz (esc (iterE s5g)) r2) _ (by
            (generalize hsy : (iterE s5g) = Sy; (conv at hsy => (lhs; whnf)); subst hsy)
            exact of_frz rfl I2) hfold
        rw [<- rng_zero, <- exec_for' (p := Stmt.pos s5g) (by rfl) (x := .rng 0 a.length 1) (by
          (generalize hsy : (iterE s5g) = Sy; (conv at hsy => (lhs; whnf)); subst hsy)
          have e1 := len_Str a (le_w (by assumption) (by decide))
          have e2 := @bf_range1 (a.length : Int) (tiny_n (by assumption) (by decide))
          have zy0 := I2.a
          fail "x") rfl] at h1
        cases out with
        | ret p => exact h2.elim
        | next r3 =>
          have I3 : In5 a b mc bc s r3 := h2
          rw [execs_next h1]
          by_cases hm : mc < s.2.2.1
          . rw [if_pos hm] at hs
            cases hs
            refine ⟨.ret (.int (mc + 1)), execs_ret ?_, rfl⟩
            (generalize hsy : (nth (bodyOf s5f) 4) = Sy; (conv at hsy => (lhs; whnf)); subst hsy)
            have zy0 := I3.f
            have zy1 := I3.m
            first | have zy2 := decide_eq_false hm | have zy2 := decide_eq_true hm
            fail "x"
          . rw [if_neg hm] at hs
            cases hs
            refine ⟨.next r3, execs_one ?_, ⟨I3.toP5, I3.e, I3.g⟩⟩
            (generalize hsy : (nth (bodyOf s5f) 4) = Sy; (conv at hsy => (lhs; whnf)); subst hsy)
            have zy0 := I3.f
            have zy1 := I3.m
            first | have zy2 := decide_eq_false hm | have zy2 := decide_eq_true hm
            fail "x"
      . cases hs
    . cases hs
  . cases hs

theorem rng_two (n : Nat) : rngList 2 (2 * ((n : Int) + 1)) 2 = ((List.range n).map fun (i : Nat) => 2 + 2 * (i : Int)).map PV.int := by
  have e : (Builtin.Range.rangeSize 2 (2 * ((n : Int) + 1)) 2).toNat = n := by
    cases n with
    | zero => rfl
    | succ n =>
      have e1 : 2 * (((n + 1 : Nat) : Int) + 1) - 2 - 1 = 1 + 2 * (n : Int) := by omega
      show (if (2 : Int) < 2 * (((n + 1 : Nat) : Int) + 1) then (2 * (((n + 1 : Nat) : Int) + 1) - 2 - 1) / 2 + 1 else 0).toNat = n + 1
      rw [if_pos (by omega), e1, Int.add_mul_ediv_left _ _ (by decide)]
      show ((0 : Int) + (n : Int) + 1).toNat = n + 1
      rw [Int.zero_add]; rfl
  unfold rngList
  rw [e, List.map_map]
  rfl

theorem levG_inv {a b : List Nat} {mc d : Int} (hm : ¬ mc < ((b.length : Int) - a.length) * 2) (h : levG a b mc = some d) : (∃ s, foldO (outerStep a b mc) (0, (List.range a.length).map fun (i : Nat) => 2 + 2 * (i : Int)) (List.range b.length) = some (.inl s) /\ s.1 = d) \/ foldO (outerStep a b mc) (0, (List.range a.length).map fun (i : Nat) => 2 + 2 * (i : Int)) (List.range b.length) = some (.inr (.int d)) := by
  unfold levG at h
  rw [if_neg hm] at h
  cases hf : foldO (outerStep a b mc) (0, (List.range a.length).map fun (i : Nat) => 2 + 2 * (i : Int)) (List.range b.length) with
  | none => rw [hf] at h; exact ns h
  | some x => rw [hf] at h; cases x with
    | inl s => exact .inl ⟨s, rfl, Option.some.inj h⟩
    | inr p => cases p with
      | int v => exact .inr (by rw [Option.some.inj (show some v = some d from h)])
      | _ => exact ns h
theorem tail5 {a b : List Nat} {mc d : Int} {r : Internal.Loc} (ha : a.length <= 40) (hb : b.length <= 40) (hab : a.length <= b.length) (h : levG a b mc = some d) (hI : P5 a b mc r) : Internal.execs o2 (scp 5) [s5 12, s5 13, s5 14, s5 15, s5 16] r = some (.ret (.int d)) := by
  have la := len_Str a (le_w (Nat.le_trans (by assumption) (by assumption)) (by decide))
  have lb := len_Str b (le_w (by assumption) (by decide))
  have m1 := mul_two' (i := (b.length : Int) - a.length) (by lia)
  by_cases hm : mc < ((b.length : Int) - a.length) * 2
  . replace h : (if mc < ((b.length : Int) - a.length) * 2 then some (mc + 1) else _) = some d := h
    rw [if_pos hm] at h
    cases h
    refine execs_ret ?_
    (generalize hsy : (s5 12) = Sy; (conv at hsy => (lhs; whnf)); subst hsy)
    have zy0 := hI.a
    have zy1 := hI.b
    have zy2 := hI.m
    first | have zy3 := decide_eq_false hm | have zy3 := decide_eq_true hm
    fail "x"
  . have x12 : Internal.exec o2 (scp 5) (s5 12) r = some (.next r) := by
      (generalize hsy : (s5 12) = Sy; (conv at hsy => (lhs; whnf)); subst hsy)
      have zy0 := hI.a
      have zy1 := hI.b
      have zy2 := hI.m
      first | have zy3 := decide_eq_false hm | have zy3 := decide_eq_true hm
      fail "x"
    rw [execs_next x12]
    have m2 := two_mul (i := (a.length : Int) + 1) (by lia)
    have r1 : bf .range [.int 2, .int (2 * ((a.length : Int) + 1)), .int 2] = some (.rng 2 (2 * ((a.length : Int) + 1)) 2) := by
      have t1 : tiny 2 = true := by decide
      have t2 : tiny (2 * ((a.length : Int) + 1)) = true := by simp only [tiny, Bool.and_eq_true, decide_eq_true_eq]; lia
      exact bf_range3 (by rw [t1, t2]; decide)
    have l1 : bf .list [.rng 2 (2 * ((a.length : Int) + 1)) 2] = some (.lst (((List.range a.length).map fun (i : Nat) => 2 + 2 * (i : Int)).map PV.int)) := by
      have hlen : (rngList 2 (2 * ((a.length : Int) + 1)) 2).length <= wide := by rw [rng_two]; simp only [List.length_map, List.length_range, wide]; lia
      have e : bf .list [.rng 2 (2 * ((a.length : Int) + 1)) 2] = if (rngList 2 (2 * ((a.length : Int) + 1)) 2).length <= wide then some (.lst (rngList 2 (2 * ((a.length : Int) + 1)) 2)) else Option.none := rfl
      rw [e, if_pos hlen, rng_two]
    have x13 : ∃ r1, Internal.exec o2 (scp 5) (s5 13) r = some (.next r1) /\ P5 a b mc r1 /\ r1 "row" = some (.own (((List.range a.length).map fun (i : Nat) => 2 + 2 * (i : Int)).map PV.int)) := by
      (generalize hsy : (s5 13) = Sy; (conv at hsy => (lhs; whnf)); subst hsy)
      have zz0 := hI.a
      first | apply go_n | apply go_ns
      . fail "x"
      . exact ⟨⟨by specialize hI.a, by specialize hI.b, by specialize hI.m⟩, by fail "x"⟩
    obtain ⟨r1, x13, I1, k1⟩ := x13
    rw [execs_next x13]
    have x14 : ∃ r2, Internal.exec o2 (scp 5) (s5 14) r1 = some (.next r2) /\ O5 a b mc (0, (List.range a.length).map fun (i : Nat) => 2 + 2 * (i : Int)) r2 := by
      (generalize hsy : (s5 14) = Sy; (conv at hsy => (lhs; whnf)); subst hsy)
      first | apply go_n | apply go_ns
      . fail "x"
      . exact ⟨⟨by specialize I1.a, by specialize I1.b, by specialize I1.m⟩, by fail "x", by specialize k1⟩
    obtain ⟨r2, x14, I2⟩ := x14
    rw [execs_next x14]
    have fin : ∀ y, foldO (outerStep a b mc) (0, (List.range a.length).map fun (i : Nat) => 2 + 2 * (i : Int)) (List.range b.length) = some y -> ∃ out, Internal.exec o2 (scp 5) (s5 15) r2 = some out /\ Good (O5 a b mc) y out := by
      intro y hy
      obtain ⟨out, h1, h2⟩ := for_fold (I := O5 a b mc) (enc := fun (k : Nat) => PV.int k) (F := fun p r => do let r' <- bindT (scp 5) (targetOf s5f) p r; Internal.execs o2 (scp 5) (bodyOf s5f) r') (f := outerStep a b mc)
        (fun st i r x hI hs => outer5 (by lia) st i r x hI hs) (List.range b.length) _ (frz (esc (iterE s5f)) r2) _ (by
          (generalize hsy : (iterE s5f) = Sy; (conv at hsy => (lhs; whnf)); subst hsy)
          exact of_frz rfl I2) hy
      rw [<- rng_zero, <- exec_for' (p := Stmt.pos s5f) (by rfl) (x := .rng 0 b.length 1) (by
        (generalize hsy : (iterE s5f) = Sy; (conv at hsy => (lhs; whnf)); subst hsy)
        have e2 := @bf_range1 (b.length : Int) (tiny_n (by assumption) (by decide))
        have zy0 := I2.b
        fail "x") rfl] at h1
      exact ⟨out, h1, h2⟩
    rcases levG_inv hm h with ⟨s, hfold, rfl⟩ | hfold
    . obtain ⟨out, h1, h2⟩ := fin _ hfold
      cases out with
      | ret p => exact h2.elim
      | next r3 =>
        have I3 : O5 a b mc s r3 := h2
        rw [execs_next h1]
        refine execs_ret ?_
        (generalize hsy : (s5 16) = Sy; (conv at hsy => (lhs; whnf)); subst hsy)
        have zy0 := I3.e
        fail "x"
    . obtain ⟨out, h1, h2⟩ := fin _ hfold
      cases out with
      | ret p => cases h2; exact execs_ret h1
      | next r3 => exact h2.elim
end

section
open PySem

structure Pre5 (a b : List Nat) (mc : Int) (p : Nat) (r : Internal.Loc) : Prop extends P5 a b mc r where
  p : r "pre" = some (.pv (.int p))
structure Post5 (a b : List Nat) (mc : Int) (q : Nat) (r : Internal.Loc) : Prop extends P5 a b mc r where
  q : r "post" = some (.pv (.int (-(q : Int))))

theorem drop_get {a : List Nat} {p : Nat} (h : (a.drop p).isEmpty = false) : p < a.length /\ a[p]? = some (a.getD p 0) := by
  have hl : p < a.length := by
    rcases Nat.lt_or_ge p a.length with h' | h'
    . exact h'
    . rw [List.drop_of_length_le h'] at h; cases h
  refine ⟨hl, ?_⟩
  simp [hl]
theorem one_eq {c d : Nat} : (S [c] == S [d]) = (c == d) := by
  rw [S_eq, Bool.eq_iff_iff]; simp

theorem pre_loop {a b : List Nat} {mc : Int} {p : Nat} {r : Internal.Loc} (ha : a.length <= 30) (hb : b.length <= 30) (h : cntO (preC a b) = some p) (hI : Pre5 a b mc 0 r) :
    ∃ r', Internal.exec o2 (scp 5) (s5 2) r = some (.next r') /\ Pre5 a b mc p r' := by
  unfold cntO at h
  split at h <;> cases h
  rename_i hw
  rw [exec_while' (p := Stmt.pos (s5 2)) (by rfl)]
  obtain ⟨out, h1, h2⟩ := while_fold (I := Pre5 a b mc) (T := fun r => (ev o2 (scp 5) (testOf (s5 2)) r).bind truth) (F := fun r => Internal.execs o2 (scp 5) (bodyOf (s5 2)) r) (t := preC a b) (f := fun p => some (.inl (p + 1)))
    (fun p r hI => by
      (generalize hsy : (testOf (s5 2)) = Sy; (conv at hsy => (lhs; whnf)); subst hsy)
      have q1 := sl_str_from a p (le_w (by assumption) (by decide))
      have q2 := sl_str_from b p (le_w (by assumption) (by decide))
      have t1 := truth_S (l := a.drop p) (by rw [List.length_drop]; exact le_w (Nat.le_trans (Nat.sub_le _ _) ha) (by decide))
      have t2 := truth_S (l := b.drop p) (by rw [List.length_drop]; exact le_w (Nat.le_trans (Nat.sub_le _ _) hb) (by decide))
      unfold preC
      cases e1 : (a.drop p).isEmpty with
      | true => rw [e1] at t1; replace t1 : truth _ = some false := t1; have z1 := hI.a; have z2 := hI.p; apply go_tb; (fail "x"); exact t1
      | false =>
        cases e2 : (b.drop p).isEmpty with
        | true => rw [e1] at t1; rw [e2] at t2; replace t1 : truth _ = some true := t1; replace t2 : truth _ = some false := t2; have z1 := hI.a; have z2 := hI.p; have z3 := hI.b; apply go_tb; (fail "x"); exact t2
        | false =>
          obtain ⟨l1, g1⟩ := drop_get e1
          obtain ⟨l2, g2⟩ := drop_get e2
          have s1 := sub_S a p _ g1 (lt_m (Nat.le_trans (Nat.le_of_lt (by assumption)) (by assumption)) (by decide))
          have s2 := sub_S b p _ g2 (lt_m (Nat.le_trans (Nat.le_of_lt (by assumption)) (by assumption)) (by decide))
          rw [e1] at t1; rw [e2] at t2; replace t1 : truth _ = some true := t1; replace t2 : truth _ = some true := t2; have z1 := hI.a; have z2 := hI.p; have z3 := hI.b; apply go_tb; (fail "x"); exact tr_h one_eq)
    (fun p r x hI ht hs => by
      cases hs
      (generalize hsy : (bodyOf (s5 2)) = Sy; (conv at hsy => (lhs; whnf)); subst hsy)
      have z := hI.p
      apply go_o
      . fail "x"
      . exact ⟨⟨by specialize hI.a, by specialize hI.b, by specialize hI.m⟩, by fail "x"⟩) 50 o2.fuel 0 r _ (by decide) hI hw
  cases out with
  | next r' => exact ⟨r', h1, h2⟩
  | ret p => exact h2.elim

theorem cut_ev (x : List Nat) (q : Nat) (h : x.length <= wide) : (if ((-(q : Int)) != 0) = true then slice (.str (S x)) .none (.int (-(q : Int))) .none else slice (.str (S x)) .none .none .none) = some (.str (S (cutP x q))) := by
  cases q with
  | zero =>
    have : ((-((0 : Nat) : Int)) != 0) = false := by decide
    rw [this, if_neg (by decide), sl_str_all x h]
    rfl
  | succ q =>
    have e : -(((q + 1 : Nat)) : Int) = -((q : Int) + 1) := rfl
    have : ((-(((q + 1 : Nat)) : Int)) != 0) = true := by first | (simp; done) | (simp; lia)
    rw [this, if_pos rfl, e, sl_str_neg x q h]
    rfl
theorem cutP_len (x : List Nat) (q : Nat) : (cutP x q).length <= x.length := by
  cases q with
  | zero => exact Nat.le_refl _
  | succ q => simp only [cutP, List.length_take]; exact Nat.min_le_right _ _
theorem cutP_get {x : List Nat} {q : Nat} (h : (cutP x q).isEmpty = false) : q < x.length /\ x[x.length - 1 - q]? = some (x.getD (x.length - 1 - q) 0) := by
  have hl : q < x.length := by
    cases q with
    | zero => cases x with
      | nil => cases h
      | cons _ _ => simp
    | succ q =>
      rcases Nat.lt_or_ge (q + 1) x.length with h' | h'
      . exact h'
      . have : cutP x (q + 1) = [] := by simp [cutP]; left; exact Nat.sub_eq_zero_of_le h'
        rw [this] at h; cases h
  refine ⟨hl, ?_⟩
  have : x.length - 1 - q < x.length := Nat.lt_of_le_of_lt (Nat.sub_le _ _) (Nat.sub_lt (Nat.zero_lt_of_lt hl) Nat.one_pos)
  simp [this]

theorem post_loop {a b : List Nat} {mc : Int} {q : Nat} {r : Internal.Loc} (ha : a.length <= 30) (hb : b.length <= 30) (h : cntO (postC a b) = some q) (hI : Post5 a b mc 0 r) :
    ∃ r', Internal.exec o2 (scp 5) (s5 6) r = some (.next r') /\ Post5 a b mc q r' := by
  unfold cntO at h
  split at h <;> cases h
  rename_i hw
  rw [exec_while' (p := Stmt.pos (s5 6)) (by rfl)]
  obtain ⟨out, h1, h2⟩ := while_fold (I := Post5 a b mc) (T := fun r => (ev o2 (scp 5) (testOf (s5 6)) r).bind truth) (F := fun r => Internal.execs o2 (scp 5) (bodyOf (s5 6)) r) (t := postC a b) (f := fun p => some (.inl (p + 1)))
    (fun q r hI => by
      (generalize hsy : (testOf (s5 6)) = Sy; (conv at hsy => (lhs; whnf)); subst hsy)
      have q1 := cut_ev a q (le_w (by assumption) (by decide))
      have q2 := cut_ev b q (le_w (by assumption) (by decide))
      have t1 := truth_S (l := cutP a q) (le_w (Nat.le_trans (cutP_len a q) ha) (by decide))
      have t2 := truth_S (l := cutP b q) (le_w (Nat.le_trans (cutP_len b q) hb) (by decide))
      unfold postC
      cases hz : ((-(q : Int)) != 0) with
      | true =>
        rw [hz, if_pos rfl] at q1 q2
        cases e1 : (cutP a q).isEmpty with
        | true => rw [e1] at t1; replace t1 : truth _ = some false := t1; have z1 := hI.a; have z2 := hI.q; apply go_tb; (fail "x"); exact t1
        | false =>
          cases e2 : (cutP b q).isEmpty with
          | true => rw [e1] at t1; rw [e2] at t2; replace t1 : truth _ = some true := t1; replace t2 : truth _ = some false := t2; have z1 := hI.a; have z2 := hI.q; have z3 := hI.b; apply go_tb; (fail "x"); exact t2
          | false =>
            obtain ⟨l1, g1⟩ := cutP_get e1
            obtain ⟨l2, g2⟩ := cutP_get e2
            have s1 := sub_S_neg a q _ g1 l1 (lt_m (Nat.le_trans (Nat.le_of_lt (by assumption)) (by assumption)) (by decide))
            have s2 := sub_S_neg b q _ g2 l2 (lt_m (Nat.le_trans (Nat.le_of_lt (by assumption)) (by assumption)) (by decide))
            rw [e1] at t1; rw [e2] at t2; replace t1 : truth _ = some true := t1; replace t2 : truth _ = some true := t2; have z1 := hI.a; have z2 := hI.q; have z3 := hI.b; apply go_tb; (fail "x"); exact tr_h one_eq
      | false =>
        rw [hz, if_neg (by decide)] at q1 q2
        cases e1 : (cutP a q).isEmpty with
        | true => rw [e1] at t1; replace t1 : truth _ = some false := t1; have z1 := hI.a; have z2 := hI.q; apply go_tb; (fail "x"); exact t1
        | false =>
          cases e2 : (cutP b q).isEmpty with
          | true => rw [e1] at t1; rw [e2] at t2; replace t1 : truth _ = some true := t1; replace t2 : truth _ = some false := t2; have z1 := hI.a; have z2 := hI.q; have z3 := hI.b; apply go_tb; (fail "x"); exact t2
          | false =>
            obtain ⟨l1, g1⟩ := cutP_get e1
            obtain ⟨l2, g2⟩ := cutP_get e2
            have s1 := sub_S_neg a q _ g1 l1 (lt_m (Nat.le_trans (Nat.le_of_lt (by assumption)) (by assumption)) (by decide))
            have s2 := sub_S_neg b q _ g2 l2 (lt_m (Nat.le_trans (Nat.le_of_lt (by assumption)) (by assumption)) (by decide))
            rw [e1] at t1; rw [e2] at t2; replace t1 : truth _ = some true := t1; replace t2 : truth _ = some true := t2; have z1 := hI.a; have z2 := hI.q; have z3 := hI.b; apply go_tb; (fail "x"); exact tr_h one_eq)
    (fun q r x hI ht hs => by
      cases hs
      (generalize hsy : (bodyOf (s5 6)) = Sy; (conv at hsy => (lhs; whnf)); subst hsy)
      have z := hI.q
      apply go_o
      . fail "x"
      . exact ⟨⟨by specialize hI.a, by specialize hI.b, by specialize hI.m⟩, by refine up_same.trans ?_; congr 3; lia⟩) 50 o2.fuel 0 r _ (by decide) hI hw
  cases out with
  | next r' => exact ⟨r', h1, h2⟩
  | ret p => exact h2.elim

theorem lev_eq {a b : List Nat} {mc d : Int} (h : levF a b mc = some d) : cf o2 5 ["a", "b", "max_cost"] [.str (S a), .str (S b), .int mc] = some (.int d) := by
  unfold levF at h
  split at h
  . rename_i hl
    obtain ⟨ha, hb⟩ := hl
    refine callF_of rfl ?_
    rw [bd5]
    have I0 : P5 a b mc (upAll ["a", "b", "max_cost"] [.str (S a), .str (S b), .int mc] fun y_ => Option.none) := ⟨by fail "x", by fail "x", by fail "x"⟩
    generalize upAll ["a", "b", "max_cost"] [.str (S a), .str (S b), .int mc] (fun y_ => Option.none) = r at I0
    have hS := S_eq a b
    cases hab : (a == b) with
    | true =>
      rw [hab] at hS
      rw [hab, if_pos rfl] at h
      cases h
      refine execs_ret ?_
      (generalize hsy : (s5 0) = Sy; (conv at hsy => (lhs; whnf)); subst hsy)
      have zy0 := I0.a
      have zy1 := I0.b
      fail "x"
    | false =>
      rw [hab] at hS
      rw [hab, if_neg (by decide)] at h
      obtain ⟨p, hp, h⟩ := Option.bind_eq_some_iff.mp h
      obtain ⟨q, hq, h⟩ := Option.bind_eq_some_iff.mp h
      have x0 : Internal.exec o2 (scp 5) (s5 0) r = some (.next r) := by
        (generalize hsy : (s5 0) = Sy; (conv at hsy => (lhs; whnf)); subst hsy)
        have zy0 := I0.a
        have zy1 := I0.b
        fail "x"
      rw [execs_next x0]
      have x1 : ∃ r1, Internal.exec o2 (scp 5) (s5 1) r = some (.next r1) /\ Pre5 a b mc 0 r1 := by
        (generalize hsy : (s5 1) = Sy; (conv at hsy => (lhs; whnf)); subst hsy)
        first | apply go_n | apply go_ns
        . fail "x"
        . exact ⟨⟨by specialize I0.a, by specialize I0.b, by specialize I0.m⟩, by fail "x"⟩
      obtain ⟨r1, x1, I1⟩ := x1
      rw [execs_next x1]
      obtain ⟨r2, x2, I2⟩ := pre_loop ha hb hp I1
      rw [execs_next x2]
      have da : (a.drop p).length <= 30 := by rw [List.length_drop]; exact Nat.le_trans (Nat.sub_le _ _) ha
      have db : (b.drop p).length <= 30 := by rw [List.length_drop]; exact Nat.le_trans (Nat.sub_le _ _) hb
      have x3 : ∃ r3, Internal.exec o2 (scp 5) (s5 3) r2 = some (.next r3) /\ Pre5 (a.drop p) b mc p r3 := by
        (generalize hsy : (s5 3) = Sy; (conv at hsy => (lhs; whnf)); subst hsy)
        have q1 := sl_str_from a p (le_w (by assumption) (by decide))
        have zz0 := I2.a
        have zz1 := I2.p
        first | apply go_n | apply go_ns
        . fail "x"
        . exact ⟨⟨by fail "x", by specialize I2.b, by specialize I2.m⟩, by specialize I2.p⟩
      obtain ⟨r3, x3, I3⟩ := x3
      rw [execs_next x3]
      have x4 : ∃ r4, Internal.exec o2 (scp 5) (s5 4) r3 = some (.next r4) /\ P5 (a.drop p) (b.drop p) mc r4 := by
        (generalize hsy : (s5 4) = Sy; (conv at hsy => (lhs; whnf)); subst hsy)
        have q1 := sl_str_from b p (le_w (by assumption) (by decide))
        have zz0 := I3.b
        have zz1 := I3.p
        first | apply go_n | apply go_ns
        . fail "x"
        . exact ⟨by specialize I3.a, by fail "x", by specialize I3.m⟩
      obtain ⟨r4, x4, I4⟩ := x4
      rw [execs_next x4]
      generalize a.drop p = a1 at hq h da I4
      generalize b.drop p = b1 at hq h db I4
      have x5 : ∃ r5, Internal.exec o2 (scp 5) (s5 5) r4 = some (.next r5) /\ Post5 a1 b1 mc 0 r5 := by
        (generalize hsy : (s5 5) = Sy; (conv at hsy => (lhs; whnf)); subst hsy)
        first | apply go_n | apply go_ns
        . fail "x"
        . exact ⟨⟨by specialize I4.a, by specialize I4.b, by specialize I4.m⟩, by fail "x"⟩
      obtain ⟨r5, x5, I5⟩ := x5
      rw [execs_next x5]
      obtain ⟨r6, x6, I6⟩ := post_loop da db hq I5
      rw [execs_next x6]
      have ca := cutP_len a1 q
      have cb := cutP_len b1 q
      have x7 : ∃ r7, Internal.exec o2 (scp 5) (s5 7) r6 = some (.next r7) /\ Post5 (cutP a1 q) b1 mc q r7 := by
        (generalize hsy : (s5 7) = Sy; (conv at hsy => (lhs; whnf)); subst hsy)
        have q1 := cut_ev a1 q (le_w (by assumption) (by decide))
        cases hz : ((-(q : Int)) != 0) with
        | true =>
          rw [hz, if_pos rfl] at q1
          have zz0 := I6.a
          have zz1 := I6.q
          first | apply go_n | apply go_ns
          . fail "x"
          . exact ⟨⟨by fail "x", by specialize I6.b, by specialize I6.m⟩, by specialize I6.q⟩
        | false =>
          rw [hz, if_neg (by decide)] at q1
          have zz0 := I6.a
          have zz1 := I6.q
          first | apply go_n | apply go_ns
          . fail "x"
          . exact ⟨⟨by fail "x", by specialize I6.b, by specialize I6.m⟩, by specialize I6.q⟩
      obtain ⟨r7, x7, I7⟩ := x7
      rw [execs_next x7]
      have x8 : ∃ r8, Internal.exec o2 (scp 5) (s5 8) r7 = some (.next r8) /\ P5 (cutP a1 q) (cutP b1 q) mc r8 := by
        (generalize hsy : (s5 8) = Sy; (conv at hsy => (lhs; whnf)); subst hsy)
        have q1 := cut_ev b1 q (le_w (by assumption) (by decide))
        cases hz : ((-(q : Int)) != 0) with
        | true =>
          rw [hz, if_pos rfl] at q1
          have zz0 := I7.b
          have zz1 := I7.q
          first | apply go_n | apply go_ns
          . fail "x"
          . exact ⟨by specialize I7.a, by fail "x", by specialize I7.m⟩
        | false =>
          rw [hz, if_neg (by decide)] at q1
          have zz0 := I7.b
          have zz1 := I7.q
          first | apply go_n | apply go_ns
          . fail "x"
          . exact ⟨by specialize I7.a, by fail "x", by specialize I7.m⟩
      obtain ⟨r8, x8, I8⟩ := x8
      rw [execs_next x8]
      dsimp only at h
      generalize cutP a1 q = a2 at h I8 ca
      generalize cutP b1 q = b2 at h I8 cb
      have t1 := truth_S (l := a2) (le_w (Nat.le_trans (by assumption) (by assumption)) (by decide))
      have t2 := truth_S (l := b2) (le_w (Nat.le_trans (by assumption) (by assumption)) (by decide))
      have la := len_Str a2 (le_w (Nat.le_trans (by assumption) (by assumption)) (by decide))
      have lb := len_Str b2 (le_w (Nat.le_trans (by assumption) (by assumption)) (by decide))
      have m1 := two_mul (i := (a2.length : Int) + b2.length) (by lia)
      cases hE : (a2.isEmpty || b2.isEmpty) with
      | true =>
        rw [hE, if_pos rfl] at h
        cases h
        refine execs_ret ?_
        (generalize hsy : (s5 9) = Sy; (conv at hsy => (lhs; whnf)); subst hsy)
        cases e1 : a2.isEmpty with
        | true => rw [e1] at t1; replace t1 : truth _ = some false := t1; have z1 := I8.a; have z2 := I8.b; fail "x"
        | false =>
          have e2 : b2.isEmpty = true := by rw [e1] at hE; simpa using hE
          rw [e1] at t1; rw [e2] at t2; replace t1 : truth _ = some true := t1; replace t2 : truth _ = some false := t2; have z1 := I8.a; have z2 := I8.b; fail "x"
      | false =>
        rw [hE, if_neg (by decide)] at h
        simp only [Bool.or_eq_false_iff] at hE
        have x9 : Internal.exec o2 (scp 5) (s5 9) r8 = some (.next r8) := by
          (generalize hsy : (s5 9) = Sy; (conv at hsy => (lhs; whnf)); subst hsy)
          have zy0 := I8.a
          have zy1 := I8.b
          replace t1 : truth (.str (S a2)) = some true := by rw [t1, hE.1]; rfl
          replace t2 : truth (.str (S b2)) = some true := by rw [t2, hE.2]; rfl
          fail "x"
        rw [execs_next x9]
        have c1 : decide ((40 : Int) < (a2.length : Int)) = false := by simp; lia
        have c2 : decide ((40 : Int) < (b2.length : Int)) = false := by simp; lia
        have x10 : Internal.exec o2 (scp 5) (s5 10) r8 = some (.next r8) := by
          (generalize hsy : (s5 10) = Sy; (conv at hsy => (lhs; whnf)); subst hsy)
          have zy0 := I8.a
          have zy1 := I8.b
          fail "x"
        rw [execs_next x10]
        by_cases hlt : b2.length < a2.length
        . rw [if_pos hlt] at h
          have c3 : decide ((b2.length : Int) < (a2.length : Int)) = true := decide_eq_true (by first | assumption | exact Int.ofNat_lt.mpr (by assumption) | lia)
          have x11 : ∃ r9, Internal.exec o2 (scp 5) (s5 11) r8 = some (.next r9) /\ P5 b2 a2 mc r9 := by
            (generalize hsy : (s5 11) = Sy; (conv at hsy => (lhs; whnf)); subst hsy)
            have zz0 := I8.a
            have zz1 := I8.b
            first | apply go_n | apply go_ns
            . fail "x"
            . exact ⟨by fail "x", by fail "x", by specialize I8.m⟩
          obtain ⟨r9, x11, I9⟩ := x11
          rw [execs_next x11]
          exact tail5 (by lia) (by lia) (by lia) h I9
        . rw [if_neg hlt] at h
          have c3 : decide ((b2.length : Int) < (a2.length : Int)) = false := by simp; lia
          have x11 : Internal.exec o2 (scp 5) (s5 11) r8 = some (.next r8) := by
            (generalize hsy : (s5 11) = Sy; (conv at hsy => (lhs; whnf)); subst hsy)
            have zy0 := I8.a
            have zy1 := I8.b
            fail "x"
          rw [execs_next x11]
          exact tail5 (by lia) (by lia) (by lia) h I8
  . cases h
end

section
open PySem

noncomputable def letters : List Nat := [97, 98, 99, 100, 101, 102, 103, 104, 65, 66, 67, 68, 69, 70, 71, 72, 119808, 119809, 119810, 119811, 119812, 119813, 119814, 119815]
noncomputable def unseenN : List Nat := [173, 847, 6150, 6155, 6156, 6157, 8203, 8204, 8205, 8288, 65279, 65024, 65025, 65026, 65027, 65028, 65029, 65030, 65031, 65032, 65033, 65034, 65035, 65036, 65037, 65038, 65039]
noncomputable def lowL (c : Nat) : Nat := if 119808 <= c then c - 119808 + 97 else if c < 97 then c + 32 else c
noncomputable def prepC (c : Nat) : Option (List Nat) := if unseenN.contains c = true then some [] else if letters.contains c = true then some [lowL c] else Option.none
theorem prep_hid : unseenN.all (fun c => b1S (c : Int)) = true := by decide +kernel
theorem prep_let : letters.all (fun c => !b1S (c : Int) && ((b3get (c : Int)).getD (Txt.lower (S [c])) == S [lowL c])) = true := by decide +kernel

theorem o2_b1 {as : List PV} : o2.fn "in_table_b1" as = b1F as := by unfold o2; rw [ext_ne (by decide), ext_ne (by decide), ext_ne (by decide), ext_ne (by decide), ext_ne (by decide), ext_eq]
theorem o2_b3 {as : List PV} : o2.fn "map_table_b3" as = b3F as := by unfold o2; rw [ext_ne (by decide), ext_ne (by decide), ext_ne (by decide), ext_ne (by decide), ext_eq]
theorem o2_unseen {as : List PV} : o2.fn "_law_unseen" as = cf o1 16 [] as := by unfold o2; rw [ext_ne (by decide), ext_ne (by decide), ext_ne (by decide), ext_eq]
theorem o2_word {as : List PV} : o2.fn "_law_word" as = cf o1 20 ["pairs", "room"] as := by unfold o2; rw [ext_ne (by decide), ext_ne (by decide), ext_eq]
theorem o2_strip {as : List PV} : o2.fn "_strip_quoted_realnames" as = cf o1 8 ["addr"] as := by unfold o2; rw [ext_ne (by decide), ext_ne (by decide), ext_ne (by decide), ext_ne (by decide), ext_ne (by decide), ext_ne (by decide), ext_eq]

theorem b1_S (c : Nat) : o2.fn "in_table_b1" [.str (S [c])] = some (.bool (b1S (c : Int))) := by rw [o2_b1]; rfl
theorem b3_S (c : Nat) : o2.fn "map_table_b3" [.str (S [c])] = some (.str ((b3get (c : Int)).getD (Txt.lower (S [c])))) := by rw [o2_b3]; rfl

noncomputable def s18 : Stmt := nth (bd 18) 1
noncomputable def prepStep (acc : List Nat) (c : Nat) : Option (Sum (List Nat) PV) := if acc.length <= 1000 then (prepC c).map fun x => .inl (acc ++ x) else Option.none
noncomputable def prepF (l : List Nat) : Option (List Nat) := match foldO prepStep [] l with
  | some (.inl x) => some x
  | _ => Option.none

theorem prep_step (acc : List Nat) (c : Nat) (r : Internal.Loc) (x : Sum (List Nat) PV) (hI : r "signs" = some (.pv (.str (S acc)))) (hs : prepStep acc c = some x) :
    ∃ out, (do let r' <- bindT (scp 18) (targetOf s18) (.str (S [c])) r; Internal.execs o2 (scp 18) (bodyOf s18) r') = some out /\ Good (fun acc r => r "signs" = some (.pv (.str (S acc)))) x out := by
  have hb : bindT (scp 18) (targetOf s18) (.str (S [c])) r = some (up "sign" (.pv (.str (S [c]))) r) := by rfl
  rw [hb, bind_s]
  unfold prepStep at hs
  split at hs
  . rename_i hl
    obtain ⟨y, hy, rfl⟩ := Option.map_eq_some_iff.mp hs
    have e : bodyOf s18 = [nth (bodyOf s18) 0, nth (bodyOf s18) 1] := by rfl
    rw [e]
    have x0 : ∃ r0, Internal.exec o2 (scp 18) (nth (bodyOf s18) 0) (up "sign" (.pv (.str (S [c]))) r) = some (.next r0) /\ r0 "signs" = some (.pv (.str (S acc))) /\ r0 "sign" = some (.pv (.str (S [c]))) /\ r0 "hidden" = some (.pv (.bool (b1S (c : Int)))) := by
      (generalize hsy : (nth (bodyOf s18) 0) = Sy; (conv at hsy => (lhs; whnf)); subst hsy)
      have q := b1_S c
      first | apply go_n | apply go_ns
      . fail "x"
      . exact ⟨by specialize hI, by fail "x", by fail "x"⟩
    obtain ⟨r0, x0, k1, k2, k3⟩ := x0
    rw [execs_next x0]
    have em : (Str.ofString "") = S [] := by rfl
    have x1 : ∃ r1, Internal.exec o2 (scp 18) (nth (bodyOf s18) 1) r0 = some (.next r1) /\ r1 "signs" = some (.pv (.str (S (acc ++ y)))) := by
      (generalize hsy : (nth (bodyOf s18) 1) = Sy; (conv at hsy => (lhs; whnf)); subst hsy)
      unfold prepC at hy
      cases hu : unseenN.contains c with
      | true =>
        rw [hu, if_pos rfl] at hy
        cases hy
        have hb : b1S (c : Int) = true := by simpa using List.all_eq_true.mp prep_hid c (List.contains_iff_mem.mp hu)
        have a1 := @y_add_ss (S acc) (S []) (by rw [S_len, S_len]; exact le_w (by assumption) (by decide))
        rw [S_app] at a1
        rw [<- em] at a1
        rw [hb] at k3
        apply go_n
        . fail "x"
        . fail "x"
      | false =>
        rw [hu, if_neg (by decide)] at hy
        split at hy
        . rename_i hlt
          cases hy
          have hq := List.all_eq_true.mp prep_let c (List.contains_iff_mem.mp hlt)
          simp only [Bool.and_eq_true, Bool.not_eq_true', beq_iff_eq] at hq
          have q := b3_S c
          rw [hq.2] at q
          have a1 := @y_add_ss (S acc) (S [lowL c]) (by rw [S_len, S_len]; exact Nat.le_trans (Nat.add_le_add_right (by assumption) 1) (by decide))
          rw [S_app] at a1
          have f1 : ((false : Bool) == true) = false := by decide
          rw [hq.1] at k3
          first | apply go_n | apply go_ns
          . fail "x"
          . exact by fail "x"
        . cases hy
    obtain ⟨r1, x1, I1⟩ := x1
    exact ⟨.next r1, execs_one x1, I1⟩
  . cases hs

set_option tactic.hygienic true in
theorem prepared_eq {l x : List Nat} (h : prepF l = some x) : cf o2 18 ["text"] [.str (S l)] = some (.str (S x)) := by
  unfold prepF at h
  split at h
  . rename_i y hd
    cases h
    refine callF_of rfl ?_
    have e : bd 18 = [nth (bd 18) 0, s18, nth (bd 18) 2] := by rfl
    rw [e]
    have em : (Str.ofString "") = S [] := by rfl
    have x0 : ∃ r0, Internal.exec o2 (scp 18) (nth (bd 18) 0) (upAll ["text"] [.str (S l)] fun y_ => Option.none) = some (.next r0) /\ r0 "signs" = some (.pv (.str (S []))) /\ r0 "text" = some (.pv (.str (S l))) := by
      (generalize hsy : (nth (bd 18) 0) = Sy; (conv at hsy => (lhs; whnf)); subst hsy)
      first | apply go_n | apply go_ns
      . fail "x"
      . exact ⟨by fail "x", by fail "x"⟩
    obtain ⟨r0, x0, I0, I0'⟩ := x0
    rw [execs_next x0]
    obtain ⟨out, h1, h2⟩ := for_fold (I := fun (acc : List Nat) (r : Internal.Loc) => r "signs" = some (.pv (.str (S acc)))) (enc := fun (c : Nat) => PV.str (S [c])) (F := fun p r => do let r' <- bindT (scp 18) (targetOf s18) p r; Internal.execs o2 (scp 18) (bodyOf s18) r') (f := prepStep)
      (fun acc c r x hI hs => prep_step acc c r x hI hs) l _ (frz (esc (iterE s18)) r0) _ (by
        (generalize hsy : (iterE s18) = Sy; (conv at hsy => (lhs; whnf)); subst hsy)
        specialize I0) hd
    rw [<- exec_for' (p := Stmt.pos s18) (by rfl) (x := .str (S l)) (by
      (generalize hsy : (iterE s18) = Sy; (conv at hsy => (lhs; whnf)); subst hsy)
      fail "x") (by show some (S _ |>.cps.toList.map fun c => PV.str ⟨#[c]⟩) = _; simp [S])] at h1
    cases out with
    | ret p => exact h2.elim
    | next r' =>
      rw [execs_next h1]
      refine execs_ret ?_
      have hI : r' "signs" = some (.pv (.str (S x))) := h2
      (generalize hsy : (nth (bd 18) 2) = Sy; (conv at hsy => (lhs; whnf)); subst hsy)
      fail "x"
  . cases h

theorem check_head (T : Str) (h : okT T = true) : ∃ r1 r2, Internal.exec o2 (scp 9) (nth (bd 9) 0) (upAll ["addr"] [.str T] fun y_ => Option.none) = some (.next r1) /\ Internal.exec o2 (scp 9) (nth (bd 9) 1) r1 = some (.next r2) /\ r2 "addr" = some (.pv (.str T)) /\ r2 "opens" = some (.pv (.int 0)) := by
  have h34 : 34 ∉ T.cps.toList := by
    unfold okT at h
    simp only [Bool.and_eq_true, Array.all_eq_true, bne_iff_ne, ne_eq] at h
    intro q
    obtain ⟨i, hi, e⟩ := List.mem_iff_getElem.mp q
    have := (h.1 i (by simpa using hi)).2
    exact this (by simpa using e)
  have q : o2.fn "_strip_quoted_realnames" [.str T] = some (.str T) := by rw [o2_strip]; exact strip_eq T h34
  have x0 : ∃ r1, Internal.exec o2 (scp 9) (nth (bd 9) 0) (upAll ["addr"] [.str T] fun y_ => Option.none) = some (.next r1) /\ r1 "addr" = some (.pv (.str T)) := by
    (generalize hsy : (nth (bd 9) 0) = Sy; (conv at hsy => (lhs; whnf)); subst hsy)
    first | apply go_n | apply go_ns
    . fail "x"
    . exact by fail "x"
  obtain ⟨r1, x0, k⟩ := x0
  have x1 : ∃ r2, Internal.exec o2 (scp 9) (nth (bd 9) 1) r1 = some (.next r2) /\ r2 "addr" = some (.pv (.str T)) /\ r2 "opens" = some (.pv (.int 0)) := by
    (generalize hsy : (nth (bd 9) 1) = Sy; (conv at hsy => (lhs; whnf)); subst hsy)
    first | apply go_n | apply go_ns
    . fail "x"
    . exact ⟨by specialize k, by fail "x"⟩
  obtain ⟨r2, x1, k1, k2⟩ := x1
  exact ⟨r1, r2, x0, x1, k1, k2⟩
end

section
open PySem

structure T17 where
  text : List Nat
  pile : List Int
  ways : List (List Int × Nat)
  opened : Nat
  letter : Nat
noncomputable def hidF (y : Int) : List Nat := if ((y.fdiv 12).fmod 2 == 1) = true then [unseenN.getD ((y.fdiv 24).fmod 27).toNat 0] else []
noncomputable def sizeF (y : Int) : Nat := if ((y.fdiv 2).fmod 2 == 1) = true then 2 else 1
noncomputable def baseF (m : Int) : Nat := [97, 65, 119808].getD (m.fmod 3).toNat 0
noncomputable def typF (y : Int) (letter : Nat) : List Nat := (List.range (sizeF y)).map fun (k : Nat) => baseF (y.fdiv 4 + k) + letter + k
noncomputable def okT17 (n : Nat) (st : T17) : Bool := decide (n <= 100) && decide (st.text.length <= 1000) && decide (st.pile.length <= 100) && decide (st.ways.length <= 100) && decide (st.opened <= 100) && decide (st.letter <= 100)
noncomputable def textStep (N : List Int) (st : T17) (x : Int) : Option (Sum T17 PV) :=
  if okT17 N.length st = true then
    if (decide ((st.opened : Int) < (N.length : Int).fdiv 2) && (st.pile.isEmpty || x.fmod 2 == 1)) = true then
      match N[st.opened]? with
      | some y => some (.inl ⟨st.text ++ [40] ++ hidF y ++ typF y st.letter, st.pile ++ [(st.opened : Int)], st.ways ++ [(st.pile ++ [(st.opened : Int)], sizeF y)], st.opened + 1, st.letter + sizeF y⟩)
      | Option.none => Option.none
    else some (.inl ⟨st.text ++ [41], st.pile.dropLast, st.ways, st.opened, st.letter⟩)
  else Option.none
noncomputable def encW (w : List Int × Nat) : PV := .tup [.lst (w.1.map .int), .int w.2]

theorem fmod_pos (a : Int) (b : Int) (hb : 0 < b) : 0 <= a.fmod b /\ a.fmod b < b := ⟨Int.fmod_nonneg_of_pos _ hb, Int.fmod_lt_of_pos _ hb⟩
theorem size_eq (y : Int) : 1 + (y.fdiv 2).fmod 2 = (sizeF y : Int) := by
  have := fmod_pos (y.fdiv 2) 2 (by decide)
  unfold sizeF
  split
  . rename_i h; simp at h; rw [h]; rfl
  . rename_i h; simp at h; lia
theorem fm3 (m : Int) : m.fmod 3 = 0 \/ m.fmod 3 = 1 \/ m.fmod 3 = 2 := by
  obtain ⟨h1, h2⟩ := tn (n := 3) (fmod_pos m 3 (by decide))
  generalize (m.fmod 3).toNat = k at h1 h2
  rcases k with _ | _ | _ | k
  . exact .inl h2.symm
  . exact .inr (.inl h2.symm)
  . exact .inr (.inr h2.symm)
  . exact absurd h1 (Nat.not_lt.mpr (Nat.le_add_left 3 k))
theorem base_eq (m : Int) : subsc (.lst [.int 97, .int 65, .int 119808]) (.int (m.fmod 3)) = some (.int (baseF m)) := by
  have h := fmod_pos m 3 (by decide)
  unfold baseF
  have := fm3 m
  rcases this with h | h | h <;> rw [h] <;> rfl
theorem base_le (m : Int) : baseF m <= 119808 := by
  have h := fmod_pos m 3 (by decide)
  unfold baseF
  have := fm3 m
  rcases this with h | h | h <;> rw [h] <;> decide
theorem chr_nat {a : Nat} (h : a <= 1114111) : bf .chr [.int (a : Int)] = some (.str (S [a])) := by
  have : bf .chr [.int (a : Int)] = if 0 <= (a : Int) /\ (a : Int) <= 1114111 then some (.str ⟨#[(a : Int).toNat]⟩) else Option.none := rfl
  rw [this, if_pos ⟨Int.natCast_nonneg a, Int.ofNat_le.mpr h⟩]
  rfl
theorem chr_sum {a b c : Nat} (h : a + b + c <= 1114111) : bf .chr [.int ((a : Int) + (b : Int) + (c : Int))] = some (.str (S [a + b + c])) := chr_nat h
theorem unseen_map : unseenL = unseenN.map fun (c : Nat) => (c : Int) := by decide +kernel
theorem uns_eq (z : Int) : subsc (.lst (unseenL.map .int)) (.int (z.fmod 27)) = some (.int ((unseenN.getD (z.fmod 27).toNat 0 : Nat) : Int)) := by
  have h := fmod_pos z 27 (by decide)
  have q := tn (n := 27) (fmod_pos z 27 (by decide))
  have e : z.fmod 27 = (((z.fmod 27).toNat : Nat) : Int) := q.2.symm
  have hl : unseenL.length = 27 := by decide +kernel
  have hl2 : unseenN.length = 27 := by decide
  have hlt := q.1
  rw [e, sub_l _ _ (by rw [List.length_map, hl]; exact hlt) (Nat.le_trans (by assumption) (by decide)), Int.toNat_natCast, unseen_map, List.map_map, List.getElem?_map]
  have : unseenN[(z.fmod 27).toNat]? = some (unseenN.getD (z.fmod 27).toNat 0) := by
    rw [List.getElem?_eq_getElem (by rw [hl2]; exact hlt)]
    simp [hl2, hlt]
  rw [this]; rfl
theorem uns_le : ∀ i : Nat, unseenN.getD i 0 <= 65279 := by
  intro i
  rcases Nat.lt_or_ge i unseenN.length with h | h
  . have : unseenN.all (fun c => decide (c <= 65279)) = true := by decide
    simp only [List.all_eq_true, decide_eq_true_eq] at this
    have hm : unseenN.getD i 0 ∈ unseenN := by simp [h]
    exact this _ hm
  . simp [List.getD_eq_getElem?_getD, List.getElem?_eq_none h]
theorem strs_S : ∀ l : List (List Nat), strs? (l.map fun x => PV.str (S x)) = some (l.map S)
  | [] => rfl
  | x :: l => by show (strs? (l.map fun x => PV.str (S x))).map (S x :: ·) = _; rw [strs_S l]; rfl
theorem join_S (l : List (List Nat)) : joinAll (l.map S) = S l.flatten := by
  cases l with
  | nil => rfl
  | cons x l =>
    have aux : ∀ (l : List (List Nat)) (acc : List Nat), (l.map S).foldl (fun (acc : Array Nat) (p : Str) => acc ++ (#[] : Array Nat) ++ p.cps) acc.toArray = (acc ++ l.flatten).toArray := by
      intro l
      induction l with
      | nil => intro acc; simp
      | cons y l ih =>
        intro acc
        simp only [List.map_cons, List.foldl_cons, List.flatten_cons]
        have e : (acc.toArray ++ (#[] : Array Nat) ++ (S y).cps) = (acc ++ y).toArray := by simp [S]
        rw [e, ih]
        simp
    show (⟨(((x :: l).map S).drop 1).foldl (fun acc p => acc ++ (#[] : Array Nat) ++ p.cps) (((x :: l).map S).headD Str.empty).cps⟩ : Str) = _
    have := aux l x
    simp only [List.map_cons, List.drop_succ_cons, List.drop_zero, List.headD_cons, List.flatten_cons]
    have e : (S x).cps = x.toArray := rfl
    rw [e, this]
    first | done | rfl
theorem join_eq (l : List (List Nat)) (h : (l.map List.length).sum <= wide) : bmeth .join (.str (Str.ofString "")) [.lst (l.map fun x => PV.str (S x))] = some (.str (S l.flatten)) := by
  have e : (Str.ofString "") = (⟨#[]⟩ : Str) := by rfl
  have : bmeth .join (.str (Str.ofString "")) [.lst (l.map fun x => PV.str (S x))] = if (Str.ofString "") = (⟨#[]⟩ : Str) then (strs? (l.map fun x => PV.str (S x))).bind fun l => if (l.map (·.length)).sum <= wide then some (.str (joinAll l)) else Option.none else Option.none := rfl
  rw [this, if_pos e, strs_S, Option.bind_some, join_S]
  have e2 : ((l.map S).map fun x => x.length) = l.map List.length := by rw [List.map_map]; exact List.map_congr_left fun x y_ => S_len x
  rw [if_pos (by rw [e2]; exact h)]
theorem sl_m1 (x : List PV) (h : x.length <= wide) : slice (.lst x) .none (.int (-1)) .none = some (.lst x.dropLast) := by
  have : slice (.lst x) .none (.int (-1)) .none = if x.length <= wide then some (.lst (cut x Option.none (some (-1)))) else Option.none := rfl
  rw [this, if_pos h]
  have e : clipAt x.length (-1) = x.length - 1 := clip_neg x.length 0
  simp only [cut, Option.elim, e, List.drop_zero, Nat.sub_zero]
  rw [List.dropLast_eq_take]

noncomputable def s17 : Stmt := nth (bd 17) 1
structure I17 (N : List Int) (st : T17) (r : Internal.Loc) : Prop where
  n : r "numbers" = some (.pv (.lst (N.map .int)))
  t : r "text" = some (.pv (.str (S st.text)))
  p : (r "pile").map Slot.val = some (.lst (st.pile.map .int))
  w : r "ways" = some (.own (st.ways.map encW))
  o : r "opened" = some (.pv (.int st.opened))
  l : r "letter" = some (.pv (.int st.letter))

noncomputable def elseS : Stmt -> List Stmt
  | .If _ _ b _ => b
  | _ => []

theorem text_step {N : List Int} (st : T17) (v : Int) (r : Internal.Loc) (x : Sum T17 PV) (hI : I17 N st r) (hs : textStep N st v = some x) :
    ∃ out, (do let r' <- bindT (scp 17) (targetOf s17) (.int v) r; Internal.execs o2 (scp 17) (bodyOf s17) r') = some out /\ Good (I17 N) x out := by
  have hb : bindT (scp 17) (targetOf s17) (.int v) r = some (up "x" (.pv (.int v)) r) := by rfl
  rw [hb, bind_s]
  refine cps fun U J => ?_
  obtain ⟨text, pile, ways, opened, letter⟩ := st
  refine J ?_; clear J U
  have hn := hI.n
  have ht := hI.t
  have hp := hI.p
  have hw := hI.w
  have ho := hI.o
  have hl := hI.l
  dsimp only at ht hp hw ho hl
  unfold textStep at hs
  split at hs
  . rename_i hok
    simp only [okT17, Bool.and_eq_true, decide_eq_true_eq] at hok
    refine cps fun U J => ?_
    obtain ⟨⟨⟨⟨⟨k1, k2⟩, k3⟩, k4⟩, k5⟩, k6⟩ := hok
    refine J ?_; clear J U
    dsimp only at hs
    have e1 := enc_len (a := N) (le_w (by assumption) (by decide))
    have e2 := eq_nil (pile.map PV.int)
    rw [List.isEmpty_map] at e2
    have lp : (Str.ofString "(") = S [40] := by rfl
    have rp : (Str.ofString ")") = S [41] := by rfl
    have eb : bodyOf s17 = [.If (testOf (nth (bodyOf s17) 0)) (bodyOf (nth (bodyOf s17) 0)) (elseS (nth (bodyOf s17) 0)) (Stmt.pos (nth (bodyOf s17) 0))] := by rfl
    have T0 : (ev o2 (scp 17) (testOf (nth (bodyOf s17) 0)) (up "x" (.pv (.int v)) r)).bind truth = some (decide ((opened : Int) < (N.length : Int).fdiv 2) && (pile.isEmpty || v.fmod 2 == 1)) := by
      (generalize hsy : (testOf (nth (bodyOf s17) 0)) = Sy; (conv at hsy => (lhs; whnf)); subst hsy)
      cases c1 : decide ((opened : Int) < (N.length : Int).fdiv 2) with
      | false => apply go_tb; (fail "x"); first | exact rfl | exact congrArg some c1
      | true =>
        cases c2 : pile.isEmpty with
        | true => rw [c2] at e2; apply go_tb; (fail "x"); exact rfl
        | false => rw [c2] at e2; apply go_tb; (fail "x"); exact rfl
    obtain ⟨tv, htv, htb⟩ := Option.bind_eq_some_iff.mp T0
    rw [eb]
    have X : ∀ out, (if (decide ((opened : Int) < (N.length : Int).fdiv 2) && (pile.isEmpty || v.fmod 2 == 1)) = true then Internal.execs o2 (scp 17) (bodyOf (nth (bodyOf s17) 0)) (up "x" (.pv (.int v)) r) else Internal.execs o2 (scp 17) (elseS (nth (bodyOf s17) 0)) (up "x" (.pv (.int v)) r)) = some out ->
        Internal.execs o2 (scp 17) [.If (testOf (nth (bodyOf s17) 0)) (bodyOf (nth (bodyOf s17) 0)) (elseS (nth (bodyOf s17) 0)) (Stmt.pos (nth (bodyOf s17) 0))] (up "x" (.pv (.int v)) r) = some out := by
      intro out h
      refine execs_one ?_
      simp only [w_ret, w_asg, w_aug, w_if, w_while, w_for, w_app]
      rw [htv, bind_s, htb, bind_s]
      exact h
    cases hc : (decide ((opened : Int) < (N.length : Int).fdiv 2) && (pile.isEmpty || v.fmod 2 == 1)) with
    | false =>
      rw [hc, if_neg (by decide)] at hs
      refine' hs
      rw [hc] at X
      have q1 := sl_m1 (pile.map PV.int) (by rw [List.length_map]; exact le_w (by assumption) (by decide))
      rw [<- List.map_dropLast] at q1
      have q2 := @y_add_ss (S text) (S [41]) (by rw [S_len, S_len]; exact Nat.le_trans (Nat.add_le_add_right (by assumption) 1) (by decide))
      rw [S_app] at q2
      replace q2 : bin .Add (.str (S text)) (.str (Str.ofString ")")) = some (.str (S (text ++ [41]))) := q2
      have x0 : ∃ r1, Internal.execs o2 (scp 17) (elseS (nth (bodyOf s17) 0)) (up "x" (.pv (.int v)) r) = some (.next r1) /\ I17 N ⟨text ++ [41], pile.dropLast, ways, opened, letter⟩ r1 := by
        (generalize hsy : (elseS (nth (bodyOf s17) 0)) = Sy; (conv at hsy => (lhs; whnf)); subst hsy)
        have zz5 := Int.reduceNeg
        first | apply go_n | apply go_ns
        . fail "x"
        . exact ⟨by specialize hn, by fail "x", by fail "x", by specialize hw, by specialize ho, by specialize hl⟩
      obtain ⟨r1, x0, I1⟩ := x0
      exact ⟨.next r1, X _ (by rw [if_neg (by decide)]; exact x0), I1⟩
    | true =>
      rw [hc, if_pos rfl] at hs
      rw [hc] at X
      cases hy : N[opened]? with
      | none => rw [hy] at hs; refine' hs
      | some y =>
        rw [hy] at hs
        refine' hs
        have hlt := (List.getElem?_eq_some_iff.mp hy).1
        have q0 : subsc (.lst (N.map PV.int)) (.int opened) = some (.int y) := by
          rw [sub_l _ opened (by simpa using hlt) (lt_m (by assumption) (by decide)), List.getElem?_map, hy]; rfl
        have em : (Str.ofString "") = S [] := by rfl
        have hsz : sizeF y <= 2 := by unfold sizeF; split <;> decide
        have I0 : I17 N ⟨text, pile, ways, opened, letter⟩ (up "x" (.pv (.int v)) r) := ⟨by specialize hn, by specialize ht, by specialize hp, by specialize hw, by specialize ho, by specialize hl⟩
        generalize (up "x" (.pv (.int v)) r) = r0 at X I0
        have ebb : bodyOf (nth (bodyOf s17) 0) = [nth (bodyOf (nth (bodyOf s17) 0)) 0, nth (bodyOf (nth (bodyOf s17) 0)) 1, nth (bodyOf (nth (bodyOf s17) 0)) 2, nth (bodyOf (nth (bodyOf s17) 0)) 3, nth (bodyOf (nth (bodyOf s17) 0)) 4, nth (bodyOf (nth (bodyOf s17) 0)) 5, nth (bodyOf (nth (bodyOf s17) 0)) 6] := by rfl
        have x0 : ∃ r1, Internal.exec o2 (scp 17) (nth (bodyOf (nth (bodyOf s17) 0)) 0) r0 = some (.next r1) /\ I17 N ⟨text, pile, ways, opened, letter⟩ r1 /\ r1 "y" = some (.pv (.int y)) := by
          have h1 := I0.n
          have h2 := I0.o
          dsimp only at h2
          (generalize hsy : (nth (bodyOf (nth (bodyOf s17) 0)) 0) = Sy; (conv at hsy => (lhs; whnf)); subst hsy)
          first | apply go_n | apply go_ns
          . fail "x"
          . exact ⟨⟨by specialize I0.n, by specialize I0.t, by specialize I0.p, by specialize I0.w, by specialize I0.o, by specialize I0.l⟩, by fail "x"⟩
        refine cps fun U J => ?_
        obtain ⟨r1, x0, I1, y1⟩ := x0
        refine J ?_; clear J U
        have x1 : ∃ r2, Internal.exec o2 (scp 17) (nth (bodyOf (nth (bodyOf s17) 0)) 1) r1 = some (.next r2) /\ I17 N ⟨text, pile, ways, opened, letter⟩ r2 /\ r2 "y" = some (.pv (.int y)) /\ r2 "size" = some (.pv (.int (sizeF y))) := by
          have h1 := size_eq y
          (generalize hsy : (nth (bodyOf (nth (bodyOf s17) 0)) 1) = Sy; (conv at hsy => (lhs; whnf)); subst hsy)
          first | apply go_n | apply go_ns
          . fail "x"
          . exact ⟨⟨by specialize I1.n, by specialize I1.t, by specialize I1.p, by specialize I1.w, by specialize I1.o, by specialize I1.l⟩, by specialize y1, by rw [<- h1]; fail "x"⟩
        refine cps fun U J => ?_
        obtain ⟨r2, x1, I2, y2, z2⟩ := x1
        refine J ?_; clear J U
        have x2 : ∃ r3, Internal.exec o2 (scp 17) (nth (bodyOf (nth (bodyOf s17) 0)) 2) r2 = some (.next r3) /\ I17 N ⟨text, pile, ways, opened, letter⟩ r3 /\ r3 "y" = some (.pv (.int y)) /\ r3 "size" = some (.pv (.int (sizeF y))) /\ r3 "hidden" = some (.pv (.str (S (hidF y)))) := by
          have u1 : o2.fn "_law_unseen" [] = some (.lst (unseenL.map .int)) := by rw [o2_unseen]; exact unseen_eq
          have u2 := uns_eq (y.fdiv 24)
          have u3 := chr_nat (a := unseenN.getD ((y.fdiv 24).fmod 27).toNat 0) (by have := uns_le ((y.fdiv 24).fmod 27).toNat; lia)
          (generalize hsy : (nth (bodyOf (nth (bodyOf s17) 0)) 2) = Sy; (conv at hsy => (lhs; whnf)); subst hsy)
          unfold hidF
          cases hh : ((y.fdiv 12).fmod 2 == 1) with
          | true =>
            first | apply go_n | apply go_ns
            . fail "x"
            . exact ⟨⟨by specialize I2.n, by specialize I2.t, by specialize I2.p, by specialize I2.w, by specialize I2.o, by specialize I2.l⟩, by specialize y2, by specialize z2, by fail "x"⟩
          | false =>
            first | apply go_n | apply go_ns
            . fail "x"
            . exact ⟨⟨by specialize I2.n, by specialize I2.t, by specialize I2.p, by specialize I2.w, by specialize I2.o, by specialize I2.l⟩, by specialize y2, by specialize z2, by fail "x"⟩
        refine cps fun U J => ?_
        obtain ⟨r3, x2, I3, y3, z3, w3⟩ := x2
        refine J ?_; clear J U
        have x3 : ∃ r4, Internal.exec o2 (scp 17) (nth (bodyOf (nth (bodyOf s17) 0)) 3) r3 = some (.next r4) /\ I17 N ⟨text, pile, ways, opened, letter⟩ r4 /\ r4 "y" = some (.pv (.int y)) /\ r4 "size" = some (.pv (.int (sizeF y))) /\ r4 "hidden" = some (.pv (.str (S (hidF y)))) /\ r4 "typed" = some (.pv (.lst ((List.range (sizeF y)).map fun (k : Nat) => .str (S [baseF (y.fdiv 4 + k) + letter + k])))) := by
          have t1 := @bf_range1 ((sizeF y : Nat) : Int) (tiny_n (by assumption) (by decide))
          have l3 := I3.l
          dsimp only at l3
          (generalize hsy : (nth (bodyOf (nth (bodyOf s17) 0)) 3) = Sy; (conv at hsy => (lhs; whnf)); subst hsy)
          apply go_n
          . with_reducible apply k_asg
            with_reducible apply k_an0
            . exact rfl
            . exact rfl
            . decide
            . refine k_comp (u := .rng 0 ((sizeF y : Nat) : Int) 1) ?_ (iter_r.trans (congrArg some (rng_zero _))) (by decide) (turns_one (g := fun (k : Nat) => PV.str (S [baseF (y.fdiv 4 + k) + letter + k])) _ fun k hk => k_one (by decide) ?_) (by simp only [List.length_map, List.length_range, wide]; lia)
              . fail "x"
              . have hk' := List.mem_range.mp hk
                have b1 := base_eq (y.fdiv 4 + k)
                have b2 := base_le (y.fdiv 4 + k)
                have b3 := chr_sum (a := baseF (y.fdiv 4 + k)) (b := letter) (c := k) (by lia)
                fail "x"
          . exact ⟨⟨by specialize I3.n, by specialize I3.t, by specialize I3.p, by specialize I3.w, by specialize I3.o, by specialize I3.l⟩, by specialize y3, by specialize z3, by specialize w3, by fail "x"⟩
        refine cps fun U J => ?_
        obtain ⟨r4, x3, I4, y4, z4, w4, v4⟩ := x3
        refine J ?_; clear J U
        have x4 : ∃ r5, Internal.exec o2 (scp 17) (nth (bodyOf (nth (bodyOf s17) 0)) 4) r4 = some (.next r5) /\ I17 N ⟨text ++ [40] ++ hidF y ++ typF y letter, pile, ways, opened, letter⟩ r5 /\ r5 "size" = some (.pv (.int (sizeF y))) := by
          have hh : (hidF y).length <= 1 := by unfold hidF; split <;> simp
          have a1 := @y_add_ss (S text) (S [40]) (by rw [S_len, S_len]; exact Nat.le_trans (Nat.add_le_add_right (by assumption) 1) (by decide))
          have a2 := @y_add_ss (S (text ++ [40])) (S (hidF y)) (by rw [S_len, S_len]; simp only [wide, List.length_append, List.length_cons, List.length_nil]; lia)
          have a3 := @y_add_ss (S (text ++ [40] ++ hidF y)) (S (typF y letter)) (by rw [S_len, S_len]; simp only [wide, List.length_append, List.length_cons, List.length_nil, typF, List.length_map, List.length_range]; lia)
          rw [S_app] at a1 a2 a3
          replace a1 : bin .Add (.str (S text)) (.str (Str.ofString "(")) = some (.str (S (text ++ [40]))) := a1
          have j1 := join_eq ((List.range (sizeF y)).map fun (k : Nat) => [baseF (y.fdiv 4 + k) + letter + k]) (by
            have : ∀ (l : List Nat), ((l.map fun (k : Nat) => [baseF (y.fdiv 4 + k) + letter + k]).map List.length).sum = l.length := by
              intro l; induction l with
              | nil => rfl
              | cons a l ih => simp only [List.map_cons, List.sum_cons, ih, List.length_cons, List.length_nil]; lia
            rw [this, List.length_range]; simp only [wide]; lia)
          rw [List.map_map] at j1
          have j2 : ((List.range (sizeF y)).map fun (k : Nat) => [baseF (y.fdiv 4 + k) + letter + k]).flatten = typF y letter := by
            unfold typF
            have : ∀ (l : List Nat), (l.map fun (k : Nat) => [baseF (y.fdiv 4 + k) + letter + k]).flatten = l.map fun (k : Nat) => baseF (y.fdiv 4 + k) + letter + k := by
              intro l; induction l with
              | nil => rfl
              | cons a l ih => simp only [List.map_cons, List.flatten_cons, ih]; rfl
            exact this _
          rw [j2] at j1
          have j3 : ((fun x => PV.str (S x)) ∘ fun (k : Nat) => [baseF (y.fdiv 4 + k) + letter + k]) = fun (k : Nat) => PV.str (S [baseF (y.fdiv 4 + k) + letter + k]) := rfl
          rw [j3] at j1
          have t4 := I4.t
          dsimp only at t4
          (generalize hsy : (nth (bodyOf (nth (bodyOf s17) 0)) 4) = Sy; (conv at hsy => (lhs; whnf)); subst hsy)
          first | apply go_n | apply go_ns
          . fail "x"
          . exact ⟨⟨by specialize I4.n, by fail "x", by specialize I4.p, by specialize I4.w, by specialize I4.o, by specialize I4.l⟩, by specialize z4⟩
        refine cps fun U J => ?_
        obtain ⟨r5, x4, I5, z5⟩ := x4
        refine J ?_; clear J U
        have x5 : ∃ r6, Internal.exec o2 (scp 17) (nth (bodyOf (nth (bodyOf s17) 0)) 5) r5 = some (.next r6) /\ I17 N ⟨text ++ [40] ++ hidF y ++ typF y letter, pile ++ [(opened : Int)], ways, opened + 1, letter + sizeF y⟩ r6 /\ r6 "size" = some (.pv (.int (sizeF y))) := by
          have p5 := I5.p
          have o5 := I5.o
          have l5 := I5.l
          dsimp only at p5 o5 l5
          have a1 := @y_add_ll (pile.map PV.int) [.int opened] (by rw [List.length_map]; exact Nat.le_trans (Nat.add_le_add_right (by assumption) 1) (by decide))
          (generalize hsy : (nth (bodyOf (nth (bodyOf s17) 0)) 5) = Sy; (conv at hsy => (lhs; whnf)); subst hsy)
          first | apply go_n | apply go_ns
          . fail "x"
          . exact ⟨⟨by specialize I5.n, by specialize I5.t, by rw [List.map_append]; fail "x", by specialize I5.w, by fail "x", by fail "x"⟩, by specialize z5⟩
        refine cps fun U J => ?_
        obtain ⟨r6, x5, I6, z6⟩ := x5
        refine J ?_; clear J U
        have x6 : ∃ r7, Internal.exec o2 (scp 17) (nth (bodyOf (nth (bodyOf s17) 0)) 6) r6 = some (.next r7) /\ I17 N ⟨text ++ [40] ++ hidF y ++ typF y letter, pile ++ [(opened : Int)], ways ++ [(pile ++ [(opened : Int)], sizeF y)], opened + 1, letter + sizeF y⟩ r7 := by
          have p6 := I6.p
          have w6 := I6.w
          dsimp only at p6 w6
          (generalize hsy : (nth (bodyOf (nth (bodyOf s17) 0)) 6) = Sy; (conv at hsy => (lhs; whnf)); subst hsy)
          have hl' : (ways.map encW).length < wide := by rw [List.length_map]; exact Nat.lt_of_le_of_lt (by assumption) (by decide)
          apply go_n
          . fail "x"
          . exact ⟨by specialize I6.n, by specialize I6.t, by specialize I6.p, by rw [List.map_append (f := encW)]; fail "x", by specialize I6.o, by specialize I6.l⟩
        obtain ⟨r7, x6, I7⟩ := x6
        refine ⟨.next r7, X _ ?_, I7⟩
        rw [if_pos rfl, ebb, execs_next x0, execs_next x1, execs_next x2, execs_next x3, execs_next x4, execs_next x5]
        exact execs_one x6
  . refine' hs

noncomputable def textF (N : List Int) : Option T17 := match foldO (textStep N) ⟨[], [], [], 0, 0⟩ N with
  | some (.inl st) => some st
  | _ => Option.none
noncomputable def encTW (st : T17) : PV := .tup [.str (S st.text), .lst (st.ways.map encW)]
set_option tactic.hygienic true in
theorem text_eq {N : List Int} {st : T17} (h : textF N = some st) : cf o2 17 ["numbers"] [.lst (N.map .int)] = some (encTW st) := by
  unfold textF at h
  split at h
  . rename_i y hd
    cases h
    refine callF_of rfl ?_
    have e : bd 17 = [nth (bd 17) 0, s17, nth (bd 17) 2] := by rfl
    rw [e]
    have em : (Str.ofString "") = S [] := by rfl
    have x0 : ∃ r0, Internal.exec o2 (scp 17) (nth (bd 17) 0) (upAll ["numbers"] [.lst (N.map .int)] fun y_ => Option.none) = some (.next r0) /\ I17 N ⟨[], [], [], 0, 0⟩ r0 := by
      (generalize hsy : (nth (bd 17) 0) = Sy; (conv at hsy => (lhs; whnf)); subst hsy)
      first | apply go_n | apply go_ns
      . fail "x"
      . exact ⟨by fail "x", by fail "x", by fail "x", by fail "x", by fail "x", by fail "x"⟩
    obtain ⟨r0, x0, I0⟩ := x0
    rw [execs_next x0]
    obtain ⟨out, h1, h2⟩ := for_fold (I := I17 N) (enc := PV.int) (F := fun p r => do let r' <- bindT (scp 17) (targetOf s17) p r; Internal.execs o2 (scp 17) (bodyOf s17) r') (f := textStep N)
      (fun st v r x hI hs => text_step st v r x hI hs) N _ (frz (esc (iterE s17)) r0) _ (by
        (generalize hsy : (iterE s17) = Sy; (conv at hsy => (lhs; whnf)); subst hsy)
        have p0 := I0.p
        have n0 := I0.n
        refine ⟨by specialize I0.n, by specialize I0.t, by specialize p0, by specialize I0.w, by specialize I0.o, by specialize I0.l⟩) hd
    rw [<- exec_for' (p := Stmt.pos s17) (by rfl) (x := .lst (N.map .int)) (by
      have n0 := I0.n
      (generalize hsy : (iterE s17) = Sy; (conv at hsy => (lhs; whnf)); subst hsy)
      fail "x") rfl] at h1
    cases out with
    | ret p => exact h2.elim
    | next r' =>
      rw [execs_next h1]
      have I1 : I17 N st r' := h2
      refine execs_ret ?_
      (generalize hsy : (nth (bd 17) 2) = Sy; (conv at hsy => (lhs; whnf)); subst hsy)
      have z1 := I1.t
      have z2 := I1.w
      show _ = some (Out.ret (.tup [.str (S st.text), .lst (st.ways.map encW)]))
      fail "x"
  . refine' h
end

section
open PySem

noncomputable def isP (c : Nat) : Bool := c == 40 || c == 41
noncomputable def okL (T : List Nat) : Bool := decide (T.length <= 100) && T.all fun c => c != 92 && c != 34
noncomputable def opensAt (T : List Nat) (place : Nat) : List Nat := (List.range (T.length - (place + 1))).filter fun i => isP (T.getD (place + 1 + i) 0)
noncomputable def strsAt (T : List Nat) (place stop : Nat) : List (List Nat) := ((List.range (T.length - stop)).filter fun i => T.getD (stop + i) 0 == 41).map fun i => (T.drop place).take (stop + i + 1 - place)
noncomputable def takenAt (T : List Nat) (place stop : Nat) : List (List Nat) := (strsAt T place stop).filter fun s => pgo 0 s
noncomputable def readStep (T : List Nat) (pairs : List PR) (place : Nat) : Option (Sum (List PR) PV) :=
  match T[place]? with
  | Option.none => Option.none
  | some c => if okL T = true /\ pairs.length <= 100 then
      if (c == 40) = true then match opensAt T place with
        | [] => Option.none
        | i0 :: _ => (prepF ((T.drop (place + 1)).take i0)).map fun nm =>
          .inl (pairs ++ [⟨place, (place : Int) + (((takenAt T place (place + 1 + i0)).headD []).length : Nat), nm, ((takenAt T place (place + 1 + i0)).length : Nat)⟩])
      else some (.inl pairs)
    else Option.none
noncomputable def readF (T : List Nat) : Option (List PR) := if T.length <= 100 then match foldO (readStep T) [] (List.range T.length) with
  | some (.inl p) => some p
  | _ => Option.none
  else Option.none

theorem in_paren (c : Nat) : strIn (S [c]) (Str.ofString "()") = isP c := by
  have e : strIn (S [c]) (Str.ofString "()") = decide (c ∈ (Str.ofString "()").cps.toList) := strIn_one c _
  have e2 : (Str.ofString "()").cps.toList = [40, 41] := by decide
  rw [e, e2, Bool.eq_iff_iff]
  simp [isP]
theorem getD_some {T : List Nat} {k : Nat} (h : k < T.length) : T[k]? = some (T.getD k 0) := by simp [h]
theorem sub_S3 (x : List Nat) (p i : Nat) (h : p + 1 + i < x.length) (hk : p + 1 + i < 1000000) : subsc (.str (S x)) (.int ((p : Int) + 1 + (i : Int))) = some (.str (S [x.getD (p + 1 + i) 0])) := by
  exact sub_S x (p + 1 + i) _ (getD_some h) hk
theorem sub_S2 (x : List Nat) (p i : Nat) (h : p + i < x.length) (hk : p + i < 1000000) : subsc (.str (S x)) (.int ((p : Int) + (i : Int))) = some (.str (S [x.getD (p + i) 0])) := by
  exact sub_S x (p + i) _ (getD_some h) hk
theorem sl_str_both (x : List Nat) (i j : Nat) (h : x.length <= wide) (hj : j <= x.length) : slice (.str (S x)) (.int i) (.int j) .none = some (.str (S ((x.drop i).take (j - i)))) := by
  have : slice (.str (S x)) (.int i) (.int j) .none = if (S x).length <= wide then some (.str ⟨(cut (S x).cps.toList (some (i : Int)) (some (j : Int))).toArray⟩) else Option.none := rfl
  have e : (S x).cps.toList = x := rfl
  rw [this, if_pos (by rw [S_len]; exact h), e, cut_both _ _ _ hj]
  rfl
theorem min_head (a : Int) (l : List Int) (h : ∀ b ∈ l, a < b) (hs : l.Pairwise (· < ·)) : minInts (a :: l) = some a := by
  induction l generalizing a with
  | nil => rfl
  | cons b l ih =>
    rw [List.pairwise_cons] at hs
    have := ih b hs.1 hs.2
    simp only [minInts_c, this, Option.map_some]
    rw [if_pos (h b List.mem_cons_self)]

noncomputable def s19 : Stmt := nth (bd 19) 1
structure I19 (T : List Nat) (pairs : List PR) (r : Internal.Loc) : Prop where
  t : r "text" = some (.pv (.str (S T)))
  p : r "pairs" = some (.own (pairs.map encP))

theorem o3_check {as : List PV} : o3.fn "_check_parenthesis" as = parenF as := by unfold o3; rw [ext_ne (by decide), ext_ne (by decide), ext_ne (by decide), ext_eq]
theorem o3_prep {as : List PV} : o3.fn "_law_prepared" as = cf o2 18 ["text"] as := by unfold o3; rw [ext_ne (by decide), ext_eq]
theorem o3_text {as : List PV} : o3.fn "_law_text" as = cf o2 17 ["numbers"] as := by unfold o3; rw [ext_ne (by decide), ext_ne (by decide), ext_eq]
theorem o3_lev {as : List PV} : o3.fn "_levenshtein_distance" as = cf o2 5 ["a", "b", "max_cost"] as := by unfold o3; rw [ext_ne (by decide), ext_ne (by decide), ext_ne (by decide), ext_ne (by decide), ext_eq]
theorem o3_due {as : List PV} : o3.fn "_law_due" as = cf o2 25 ["lengths"] as := by unfold o3; rw [ext_eq]
theorem check_S {l : List Nat} (h : okL l = true) : parenF [.str (S l)] = some (.bool (pgo 0 l)) := by
  have : okT (S l) = true := by
    unfold okT okL at *
    simp only [Bool.and_eq_true, decide_eq_true_eq] at h ⊢
    refine ⟨?_, by rw [S_len]; exact Nat.le_trans h.1 (by decide)⟩
    simpa [S] using h.2
  show (if okT (S l) = true then some (PV.bool (pgo 0 (S l).cps.toList)) else Option.none) = _
  rw [if_pos this]
  rfl
theorem okL_sub {T l : List Nat} (h : okL T = true) (hs : ∀ c ∈ l, c ∈ T) (hl : l.length <= T.length) : okL l = true := by
  unfold okL at *
  simp only [Bool.and_eq_true, decide_eq_true_eq, List.all_eq_true] at h ⊢
  exact ⟨Nat.le_trans hl h.1, fun c hc => h.2 c (hs c hc)⟩

set_option tactic.hygienic true in
theorem read_step {T : List Nat} (pairs : List PR) (place : Nat) (r : Internal.Loc) (x : Sum (List PR) PV) (hI : I19 T pairs r) (hs : readStep T pairs place = some x) :
    ∃ out, (do let r' <- bindT (scp 19) (targetOf s19) (.int place) r; Internal.execs (od 7) (scp 19) (bodyOf s19) r') = some out /\ Good (I19 T) x out := by
  have hb : bindT (scp 19) (targetOf s19) (.int place) r = some (up "place" (.pv (.int place)) r) := by rfl
  rw [hb, bind_s]
  unfold readStep at hs
  split at hs
  . cases hs
  rename_i c hc
  split at hs
  . rename_i hok
    obtain ⟨hokL, hpl⟩ := hok
    have hlt := (List.getElem?_eq_some_iff.mp hc).1
    have hTl : T.length <= 100 := by unfold okL at hokL; simp only [Bool.and_eq_true, decide_eq_true_eq] at hokL; exact hokL.1
    have q0 := sub_S T place c hc (lt_m (Nat.le_trans (Nat.le_of_lt hlt) hTl) (by decide))
    have lp : (Str.ofString "(") = S [40] := by rfl
    have rp : (Str.ofString ")") = S [41] := by rfl
    have em : (Str.ofString "") = S [] := by rfl
    have lT := len_Str T (le_w hTl (by decide))
    have eb : bodyOf s19 = [.If (testOf (nth (bodyOf s19) 0)) (bodyOf (nth (bodyOf s19) 0)) [] (Stmt.pos (nth (bodyOf s19) 0))] := by rfl
    have T0 : (ev (od 7) (scp 19) (testOf (nth (bodyOf s19) 0)) (up "place" (.pv (.int place)) r)).bind truth = some (c == 40) := by
      (generalize hsy : (testOf (nth (bodyOf s19) 0)) = Sy; (conv at hsy => (lhs; whnf)); subst hsy)
      have ht := hI.t
      apply go_tb
      . fail "x"
      . exact tr_h (show (S [c] == Str.ofString "(") = (c == 40) from one_eq)
    obtain ⟨tv, htv, htb⟩ := Option.bind_eq_some_iff.mp T0
    rw [eb]
    have X : ∀ out, (if (c == 40) = true then Internal.execs (od 7) (scp 19) (bodyOf (nth (bodyOf s19) 0)) (up "place" (.pv (.int place)) r) else Internal.execs (od 7) (scp 19) [] (up "place" (.pv (.int place)) r)) = some out ->
        Internal.execs (od 7) (scp 19) [.If (testOf (nth (bodyOf s19) 0)) (bodyOf (nth (bodyOf s19) 0)) [] (Stmt.pos (nth (bodyOf s19) 0))] (up "place" (.pv (.int place)) r) = some out := by
      intro out h
      refine execs_one ?_
      simp only [w_ret, w_asg, w_aug, w_if, w_while, w_for, w_app]
      rw [htv, bind_s, htb, bind_s]
      exact h
    have I0 : I19 T pairs (up "place" (.pv (.int place)) r) := ⟨by specialize hI.t, by specialize hI.p⟩
    have P0 : (up "place" (.pv (.int place)) r) "place" = some (.pv (.int place)) := up_same
    generalize (up "place" (.pv (.int place)) r) = r0 at X I0 P0
    cases hcc : (c == 40) with
    | false =>
      rw [hcc, if_neg (by decide)] at hs
      cases hs
      rw [hcc] at X
      exact ⟨.next r0, X _ (by rw [if_neg (by decide)]; simp only [w_nil, w_cons]), I0⟩
    | true =>
      rw [hcc, if_pos rfl] at hs
      rw [hcc] at X
      split at hs
      . cases hs
      rename_i i0 irest hop
      refine cps fun U J => ?_
      obtain ⟨nm, hnm, rfl⟩ := Option.map_eq_some_iff.mp hs
      refine J ?_; clear J U
      have hi0 : i0 ∈ opensAt T place := by rw [hop]; exact List.mem_cons_self
      have hi0' : i0 < T.length - (place + 1) := List.mem_range.mp (List.mem_filter.mp hi0).1
      have ebb : bodyOf (nth (bodyOf s19) 0) = [nth (bodyOf (nth (bodyOf s19) 0)) 0, nth (bodyOf (nth (bodyOf s19) 0)) 1, nth (bodyOf (nth (bodyOf s19) 0)) 2, nth (bodyOf (nth (bodyOf s19) 0)) 3] := by rfl
      have hst : place + 1 + i0 <= T.length := Nat.le_of_lt (Nat.add_lt_of_lt_sub' hi0')
      generalize hstop : place + 1 + i0 = stop at *
      have x0 : ∃ r1, Internal.exec (od 7) (scp 19) (nth (bodyOf (nth (bodyOf s19) 0)) 0) r0 = some (.next r1) /\ I19 T pairs r1 /\ r1 "place" = some (.pv (.int place)) /\ r1 "stop" = some (.pv (.int stop)) := by
        have t1 := @bf_range2 ((place : Int) + 1) (T.length : Int) (tiny2 (tiny_n (n := place + 1) (Nat.le_trans hlt hTl) (by decide)) (tiny_n hTl (by decide)))
        have g1 := rng_eq ((place : Int) + 1) (T.length : Int) (T.length - (place + 1)) (Int.ofNat_sub hlt).symm
        have mn : bf .min [.lst ((opensAt T place).map fun (i : Nat) => PV.int ((place : Int) + 1 + i))] = some (.int stop) := by
          have e1 : ((opensAt T place).map fun (i : Nat) => PV.int ((place : Int) + 1 + i)) = ((opensAt T place).map fun (i : Nat) => (place : Int) + 1 + i).map PV.int := by rw [List.map_map]; rfl
          have e2 : minInts ((opensAt T place).map fun (i : Nat) => (place : Int) + 1 + i) = some ((place : Int) + 1 + i0) := by
            have hpw : (opensAt T place).Pairwise (· < ·) := List.Pairwise.filter _ List.pairwise_lt_range
            rw [hop] at hpw ⊢
            rw [List.pairwise_cons] at hpw
            refine min_head _ _ (fun b hb => ?_) ?_
            . refine cps fun U J => ?_
              obtain ⟨j, hj, rfl⟩ := List.mem_map.mp hb
              refine J ?_; clear J U
              exact Int.add_lt_add_left (Int.ofNat_lt.mpr (hpw.1 j hj)) _
            . rw [List.pairwise_map]
              exact hpw.2.imp fun h => Int.add_lt_add_left (Int.ofNat_lt.mpr h) _
          rw [e1]
          refine (show bf .min [.lst (((opensAt T place).map fun (i : Nat) => (place : Int) + 1 + i).map PV.int)] = ((ints? (((opensAt T place).map fun (i : Nat) => (place : Int) + 1 + i).map PV.int)).bind fun l => (minInts l).map PV.int) from rfl).trans ?_
          rw [ints_map, Option.bind_some, e2, Option.map_some, <- hstop]
          exact congrArg (fun n : Int => some (PV.int n)) rfl
        (generalize hsy : (nth (bodyOf (nth (bodyOf s19) 0)) 0) = Sy; (conv at hsy => (lhs; whnf)); subst hsy)
        have mn' : bf .min [.lst (((List.range (T.length - (place + 1))).filter fun i => isP (T.getD (place + 1 + i) 0)).map fun (i : Nat) => PV.int ((place : Int) + 1 + i))] = some (.int stop) := mn
        have t0 := I0.t
        apply go_n
        . with_reducible apply k_asg
          with_reducible apply k_an0
          . exact rfl
          . exact rfl
          . decide
          . with_reducible apply k_call
            . decide
            . with_reducible apply k_s1
              . exact rfl
              . refine k_comp (u := .rng ((place : Int) + 1) (T.length : Int) 1) ?_ (iter_r.trans (congrArg some g1)) (by decide) (turns_filter (q := fun i => isP (T.getD (place + 1 + i) 0)) (g := fun (i : Nat) => PV.int ((place : Int) + 1 + i)) _ fun i hi => k_if1 (v := .bool (strIn (S [T.getD (place + 1 + i) 0]) (Str.ofString "()"))) (by decide) ?_ (tr_h (in_paren _)) ?_) (fl_w (Nat.le_trans (Nat.sub_le _ _) hTl) (by decide))
                . fail "x"
                . have hi' := List.mem_range.mp hi
                  have s1 := sub_S3 T place i (Nat.add_lt_of_lt_sub' hi') (lt_m (Nat.le_trans (Nat.le_of_lt (Nat.add_lt_of_lt_sub' hi')) hTl) (by decide))
                  fail "x"
                . fail "x"
              . fail "x"
            . fail "x"
        . exact ⟨⟨by specialize I0.t, by specialize I0.p⟩, by specialize P0, by fail "x"⟩
      refine cps fun U J => ?_
      obtain ⟨r1, x0, I1, P1, S1⟩ := x0
      refine J ?_; clear J U
      have x1 : ∃ r2, Internal.exec (od 7) (scp 19) (nth (bodyOf (nth (bodyOf s19) 0)) 1) r1 = some (.next r2) /\ I19 T pairs r2 /\ r2 "place" = some (.pv (.int place)) /\ r2 "stop" = some (.pv (.int stop)) /\ r2 "stretches" = some (.pv (.lst ((strsAt T place stop).map fun s => .str (S s)))) := by
        have t1 := @bf_range2 (stop : Int) (T.length : Int) (tiny2 (tiny_n (Nat.le_trans hst hTl) (by decide)) (tiny_n hTl (by decide)))
        have g1 := rng_eq (stop : Int) (T.length : Int) (T.length - stop) (Int.ofNat_sub hst).symm
        (generalize hsy : (nth (bodyOf (nth (bodyOf s19) 0)) 1) = Sy; (conv at hsy => (lhs; whnf)); subst hsy)
        have t2 := I1.t
        apply go_n
        . with_reducible apply k_asg
          with_reducible apply k_an0
          . exact rfl
          . exact rfl
          . decide
          . refine k_comp (u := .rng (stop : Int) (T.length : Int) 1) ?_ (iter_r.trans (congrArg some g1)) (by decide) (turns_filter (q := fun i => T.getD (stop + i) 0 == 41) (g := fun (i : Nat) => PV.str (S ((T.drop place).take (stop + i + 1 - place)))) _ fun i hi => k_if1 (by decide) ?_ (tr_h (show (S [T.getD (stop + i) 0] == Str.ofString ")") = (T.getD (stop + i) 0 == 41) from one_eq)) ?_) (fl_w (Nat.le_trans (Nat.sub_le _ _) hTl) (by decide))
            . fail "x"
            . have hi' := List.mem_range.mp hi
              have s1 := sub_S2 T stop i (Nat.add_lt_of_lt_sub' hi') (lt_m (Nat.le_trans (Nat.le_of_lt (Nat.add_lt_of_lt_sub' hi')) hTl) (by decide))
              fail "x"
            . have hi' := List.mem_range.mp hi
              have s3 : slice (.str (S T)) (.int place) (.int ((stop : Int) + (i : Int) + 1)) .none = some (.str (S ((T.drop place).take (stop + i + 1 - place)))) := by
                exact sl_str_both T place (stop + i + 1) (le_w hTl (by decide)) (Nat.add_lt_of_lt_sub' hi')
              fail "x"
        . refine ⟨⟨by specialize I1.t, by specialize I1.p⟩, by specialize P1, by specialize S1, ?_⟩
          refine up_same.trans ?_
          simp only [strsAt, List.map_map]
          rfl
      refine cps fun U J => ?_
      obtain ⟨r2, x1, I2, P2, S2, Z2⟩ := x1
      refine J ?_; clear J U
      have hstr : ∀ s ∈ strsAt T place stop, okL s = true := fun s hs => by
        refine cps fun U J => ?_
        obtain ⟨i, _, rfl⟩ := List.mem_map.mp hs
        refine J ?_; clear J U
        refine okL_sub hokL (fun c hc => List.mem_of_mem_drop (List.mem_of_mem_take hc)) ?_
        exact Nat.le_trans (List.length_take_le' _ _) (by rw [List.length_drop]; exact Nat.sub_le _ _)
      have hsl : (strsAt T place stop).length <= 100 := by
        unfold strsAt; rw [List.length_map]
        exact Nat.le_trans (List.length_filter_le _ _) (by rw [List.length_range]; exact Nat.le_trans (Nat.sub_le _ _) hTl)
      have htl : (takenAt T place stop).length <= 100 := Nat.le_trans (List.length_filter_le _ _) hsl
      have x2 : ∃ r3, Internal.exec (od 7) (scp 19) (nth (bodyOf (nth (bodyOf s19) 0)) 2) r2 = some (.next r3) /\ I19 T pairs r3 /\ r3 "place" = some (.pv (.int place)) /\ r3 "stop" = some (.pv (.int stop)) /\ r3 "taken" = some (.pv (.lst ((takenAt T place stop).map fun s => .str (S s)))) := by
        (generalize hsy : (nth (bodyOf (nth (bodyOf s19) 0)) 2) = Sy; (conv at hsy => (lhs; whnf)); subst hsy)
        apply go_n
        . with_reducible apply k_asg
          with_reducible apply k_an
          . exact rfl
          . decide
          . refine k_comp (u := .lst ((strsAt T place stop).map fun s => .str (S s))) ?_ iter_l (by decide) (turns_filter (q := fun s => pgo 0 s) (g := fun s => PV.str (S s)) _ fun s hs => k_if1 (v := .bool (pgo 0 s == true)) (by decide) ?_ (tr_h (by cases pgo 0 s <;> rfl)) ?_) (by rw [List.length_map]; exact le_w htl (by decide))
            . fail "x"
            . have c1 : (od 7).fn "_check_parenthesis" [.str (S s)] = some (.bool (pgo 0 s)) := by rw [od_fn (by decide), o3_check]; exact check_S (hstr s hs)
              fail "x"
            . fail "x"
        . exact ⟨⟨by specialize I2.t, by specialize I2.p⟩, by specialize P2, by specialize S2, by fail "x"⟩
      refine cps fun U J => ?_
      obtain ⟨r3, x2, I3, P3, S3, K3⟩ := x2
      refine J ?_; clear J U
      have x3 : ∃ r4, Internal.exec (od 7) (scp 19) (nth (bodyOf (nth (bodyOf s19) 0)) 3) r3 = some (.next r4) /\ I19 T (pairs ++ [⟨place, (place : Int) + (((takenAt T place stop).headD []).length : Nat), nm, ((takenAt T place stop).length : Nat)⟩]) r4 := by
        have a1 := @y_add_ll ((takenAt T place stop).map fun s => PV.str (S s)) [.str (S [])] (by rw [List.length_map]; exact Nat.le_trans (Nat.add_le_add_right htl 1) (by decide))
        have a2 : subsc (.lst (((takenAt T place stop).map fun s => PV.str (S s)) ++ [.str (S [])])) (.int 0) = some (.str (S ((takenAt T place stop).headD []))) := by
          cases takenAt T place stop with
          | nil => exact sub_l0
          | cons a l => exact sub_l0
        have hhd : ((takenAt T place stop).headD []).length <= 100 := by
          cases hq : takenAt T place stop with
          | nil => simp
          | cons a l =>
            have : a ∈ strsAt T place stop := (List.mem_filter.mp (show a ∈ takenAt T place stop by rw [hq]; exact List.mem_cons_self)).1
            have := hstr a this
            unfold okL at this
            simp only [Bool.and_eq_true, decide_eq_true_eq] at this
            exact this.1
        have a3 := len_Str ((takenAt T place stop).headD []) (le_w hhd (by decide))
        have a4 : slice (.str (S T)) (.int ((place : Int) + 1)) (.int stop) .none = some (.str (S ((T.drop (place + 1)).take i0))) := by
          have e2 : stop - (place + 1) = i0 := by rw [<- hstop, Nat.add_sub_cancel_left]
          rw [<- e2]; exact sl_str_both T (place + 1) stop (le_w hTl (by decide)) hst
        have a5 : (od 7).fn "_law_prepared" [.str (S ((T.drop (place + 1)).take i0))] = some (.str (S nm)) := by rw [od_fn (by decide), o3_prep]; exact prepared_eq hnm
        have a6 := len_l ((takenAt T place stop).map fun s => PV.str (S s)) (by rw [List.length_map]; exact le_w htl (by decide))
        rw [List.length_map] at a6
        have p3 := I3.p
        (generalize hsy : (nth (bodyOf (nth (bodyOf s19) 0)) 3) = Sy; (conv at hsy => (lhs; whnf)); subst hsy)
        have t3 := I3.t
        rw [<- em] at a1 a2
        have hpl' : (pairs.map encP).length < wide := by rw [List.length_map]; exact Nat.lt_of_le_of_lt hpl (by decide)
        apply go_n
        . fail "x"
        . exact ⟨by specialize I3.t, by rw [List.map_append]; fail "x"⟩
      obtain ⟨r4, x3, I4⟩ := x3
      refine ⟨.next r4, X _ ?_, I4⟩
      rw [if_pos rfl, ebb, execs_next x0, execs_next x1, execs_next x2]
      exact execs_one x3
  . cases hs

set_option tactic.hygienic true in
theorem read_eq {T : List Nat} {ps : List PR} (h : readF T = some ps) : cf (od 7) 19 ["text"] [.str (S T)] = some (.lst (ps.map encP)) := by
  unfold readF at h
  split at h
  . rename_i hT
    split at h
    . rename_i p hp
      cases h
      refine callF_of rfl ?_
      have e : bd 19 = [nth (bd 19) 0, s19, nth (bd 19) 2] := by rfl
      rw [e]
      have x0 : ∃ r0, Internal.exec (od 7) (scp 19) (nth (bd 19) 0) (upAll ["text"] [.str (S T)] fun y_ => Option.none) = some (.next r0) /\ I19 T [] r0 := by
        (generalize hsy : (nth (bd 19) 0) = Sy; (conv at hsy => (lhs; whnf)); subst hsy)
        first | apply go_n | apply go_ns
        . fail "x"
        . exact ⟨by fail "x", by fail "x"⟩
      obtain ⟨r0, x0, I0⟩ := x0
      rw [execs_next x0]
      obtain ⟨out, h1, h2⟩ := for_fold (I := I19 T) (enc := fun (k : Nat) => PV.int k) (F := fun p r => do let r' <- bindT (scp 19) (targetOf s19) p r; Internal.execs (od 7) (scp 19) (bodyOf s19) r') (f := readStep T)
        (fun w k r x hI hs => read_step w k r x hI hs) (List.range T.length) _ (frz (esc (iterE s19)) r0) _ (by
          (generalize hsy : (iterE s19) = Sy; (conv at hsy => (lhs; whnf)); subst hsy)
          exact of_frz rfl I0) hp
      rw [<- rng_zero, <- exec_for' (p := Stmt.pos s19) (by rfl) (x := .rng 0 T.length 1) (by
        (generalize hsy : (iterE s19) = Sy; (conv at hsy => (lhs; whnf)); subst hsy)
        have e1 := len_Str T (le_w hT (by decide))
        have e2 := @bf_range1 (T.length : Int) (tiny_n hT (by decide))
        have zy0 := I0.t
        fail "x") rfl] at h1
      cases out with
      | ret p => exact h2.elim
      | next r' =>
        rw [execs_next h1]
        refine execs_ret ?_
        have hI := h2.p
        (generalize hsy : (nth (bd 19) 2) = Sy; (conv at hsy => (lhs; whnf)); subst hsy)
        fail "x"
    . cases h
  . cases h
end

section
open PySem

noncomputable def valE : Stmt -> Expr
  | .Assign _ e _ => e
  | .Return (some e) _ => e
  | .Expr e _ => e
  | .If t _ _ _ => t
  | _ => .Constant .none 0 default
noncomputable def lk (l : List (Str × PV)) (x : Str) : Option PV := l.lookup x
noncomputable def Has (l : List (Str × PV)) (r : Internal.Loc) : Prop := ∀ x p, lk l x = some p -> (r x).map Slot.val = some p
theorem Has.frz {l : List (Str × PV)} {r : Internal.Loc} (xs : List Str) (H : Has l r) : Has l (Internal.frz xs r) := fun x p h => by
  unfold Internal.frz
  split
  . rw [<- H x p h]
    cases r x <;> rfl
  . exact H x p h
theorem Has.up {l : List (Str × PV)} {r : Internal.Loc} {x : Str} {s : Slot} {p : PV} (hs : s.val = p) (H : Has l r) : Has ((x, p) :: l) (Internal.up x s r) := fun y q h => by
  unfold lk at h
  rw [List.lookup_cons] at h
  unfold Internal.up
  split at h
  . rename_i e
    cases h
    rw [if_pos (by simpa using e), <- hs]; rfl
  . rename_i e
    rw [if_neg (by simpa using e)]
    exact H y q h
theorem Has.up' {l : List (Str × PV)} {r : Internal.Loc} {x : Str} {s : Slot} (hx : (lk l x).isNone = true) (H : Has l r) : Has l (Internal.up x s r) := fun y q h => by
  unfold Internal.up
  split
  . rename_i e
    subst e; rw [h] at hx; cases hx
  . exact H y q h
theorem slot_val {e : Expr} {p : PV} : (slotOf e p).val = p := by
  unfold slotOf
  cases fresh e <;> cases p <;> rfl
theorem asg {o : Orc} {sc : Scope} {st : Stmt} {x : Str} {q : Pos} {tp : Pos} {p : PV} {l : List (Str × PV)} {r : Internal.Loc} (hst : st = .Assign [.Name x q] (valE st) tp) (hs : storable sc x = true) (he : ev o sc (valE st) r = some p) (H : Has l r) :
    ∃ r', Internal.exec o sc st r = some (.next r') /\ Has ((x, p) :: l) r' := by
  rw [hst]
  simp only [w_ret, w_asg, w_aug, w_if, w_while, w_for, w_app, a_tt, a_t, a_n, a_nn, a_s, a_0, a_3]
  rw [he, bind_s, if_pos hs]
  exact ⟨_, rfl, (H.frz _).up slot_val⟩

noncomputable def baseL : List Int := [4, 23, 0, 1, 0, 0, 6, 9]
noncomputable def cntF (script : List Int) : Nat := if (script.length : Int).fdiv 2 < 1 then 3 else 4
noncomputable def numF (script : List Int) (c : Nat) : List Int := (List.range (2 * c)).map fun (k : Nat) => baseL.getD k 0 + (pick script (some (k : Int)) (some 24) (some (2 * (c : Int)))).sum
noncomputable def s26 (i : Nat) : Stmt := nth (bd 26) i
theorem bd26 : bd 26 = [s26 0, s26 1, s26 2, s26 3, s26 4, s26 5, s26 6, s26 7, s26 8, s26 9, s26 10, s26 11, s26 12, s26 13, s26 14, s26 15] := by rfl

theorem pick_map {α β : Type} (f : α -> β) (l : List α) (a b c : Option Int) : pick (l.map f) a b c = (pick l a b c).map f := by
  unfold pick
  rw [List.length_map]
  rw [List.map_filterMap]
  simp only [List.getElem?_map]
theorem sl_pick (l : List Int) (a b c : Int) (hc : c ≠ 0) (hl : l.length <= wide) : slice (.lst (l.map .int)) (.int a) (.int b) (.int c) = some (.lst ((pick l (some a) (some b) (some c)).map .int)) := by
  have : slice (.lst (l.map PV.int)) (.int a) (.int b) (.int c) = if c = 0 then Option.none else if (l.map PV.int).length <= wide then some (.lst (pick (l.map PV.int) (some a) (some b) (some c))) else Option.none := rfl
  rw [this, if_neg hc, if_pos (by rw [List.length_map]; exact hl), pick_map]
theorem sum_l (l : List Int) : bf .sum [.lst (l.map .int)] = some (.int l.sum) := by
  have : bf .sum [.lst (l.map PV.int)] = (ints? (l.map PV.int)).map fun l => .int l.sum := rfl
  rw [this, ints_map, Option.map_some]
theorem base_t {k : Nat} (hk : k < 8) : subsc (.tup [.int 4, .int 23, .int 0, .int 1, .int 0, .int 0, .int 6, .int 9]) (.int k) = some (.int (baseL.getD k 0)) := by
  rw [sub_t _ _ (by simpa using hk) (Nat.le_trans (by assumption) (by decide))]
  exact cases8 hk rfl rfl rfl rfl rfl rfl rfl rfl

theorem law0 {script : List Int} (hl : script.length <= 63) {r : Internal.Loc} {l : List (Str × PV)} (H : Has l r) (h : lk l "script" = some (.lst (script.map .int))) :
    ∃ r', Internal.exec o4 (scp 26) (s26 0) r = some (.next r') /\ Has (("count", .int (cntF script)) :: l) r' := by
  have h1 := H _ _ h
  refine asg (o := o4) (by rfl) (by rfl) ?_ H
  have e1 := enc_len (a := script) (le_w (by assumption) (by decide))
  (generalize hsy : (valE (s26 0)) = Sy; (conv at hsy => (lhs; whnf)); subst hsy)
  refine Eq.trans (b := some (.int (3 + if (script.length : Int).fdiv 2 < 1 then (script.length : Int).fdiv 2 else 1))) (by fail "x") ?_
  unfold cntF
  split <;> rename_i hh
  . have : (script.length : Int).fdiv 2 = 0 := by
      have := Int.fdiv_eq_ediv_of_nonneg (script.length : Int) (b := 2) (by decide)
      lia
    rw [this]; rfl
  . rfl
theorem law1 {script : List Int} (hl : script.length <= 63) {c : Nat} (hc : c = 3 \/ c = 4) {r : Internal.Loc} {l : List (Str × PV)} (H : Has l r) (h : lk l "script" = some (.lst (script.map .int))) (h' : lk l "count" = some (.int c)) :
    ∃ r', Internal.exec o4 (scp 26) (s26 1) r = some (.next r') /\ Has (("numbers", .lst ((numF script c).map .int)) :: l) r' := by
  have h1 := H _ _ h
  have h2 := H _ _ h'
  refine asg (o := o4) (by rfl) (by rfl) ?_ H
  have e0 : bin .Mult (.int 2) (.int (c : Int)) = some (.int (2 * (c : Int))) := y_mul (by rcases hc with h | h <;> subst h <;> decide)
  have e1 := @bf_range1 (2 * (c : Int)) (tiny_n (n := 2 * c) (Nat.mul_le_mul_left 2 (c34 hc)) (by decide))
  have e2 := rng_zero (2 * c)
  have e3 : ((2 * c : Nat) : Int) = 2 * (c : Int) := rfl
  rw [e3] at e2
  (generalize hsy : (valE (s26 1)) = Sy; (conv at hsy => (lhs; whnf)); subst hsy)
  have e5 : (numF script c).map PV.int = (List.range (2 * c)).map fun (k : Nat) => PV.int (baseL.getD k 0 + (pick script (some (k : Int)) (some 24) (some (2 * (c : Int)))).sum) := by unfold numF; rw [List.map_map]; rfl
  rw [e5]
  refine k_comp (u := .rng 0 (2 * (c : Int)) 1) ?_ (iter_r.trans (congrArg some e2)) (by decide) (turns_one (g := fun (k : Nat) => PV.int (baseL.getD k 0 + (pick script (some (k : Int)) (some 24) (some (2 * (c : Int)))).sum)) _ fun k hk => k_one (by decide) ?_) (by rw [List.length_map, List.length_range]; exact le_w (Nat.mul_le_mul_left 2 (c34 hc)) (by decide))
  . fail "x"
  . have hk' := List.mem_range.mp hk
    have b1 := base_t (k := k) (Nat.lt_of_lt_of_le hk' (Nat.mul_le_mul_left 2 (c34 hc)))
    have b2 := sl_pick script k 24 (2 * (c : Int)) (by omega) (le_w (by assumption) (by decide))
    have b3 := sum_l (pick script (some (k : Int)) (some 24) (some (2 * (c : Int))))
    fail "x"

theorem o4_text {as : List PV} : o4.fn "_law_text" as = cf o2 17 ["numbers"] as := by unfold o4; rw [ext_ne (by decide), ext_ne (by decide), od_fn (by decide), o3_text]
theorem o4_read {as : List PV} : o4.fn "_law_read" as = cf (od 7) 19 ["text"] as := by unfold o4; rw [ext_ne (by decide), ext_eq]
theorem o4_div {as : List PV} : o4.fn "_law_divisors" as = cf (od 7) 24 ["table"] as := ext_eq
theorem o4_due {as : List PV} : o4.fn "_law_due" as = cf o2 25 ["lengths"] as := by unfold o4; rw [ext_ne (by decide), ext_ne (by decide), od_fn (by decide), o3_due]
theorem o4_lev {as : List PV} : o4.fn "_levenshtein_distance" as = cf o2 5 ["a", "b", "max_cost"] as := by unfold o4; rw [ext_ne (by decide), ext_ne (by decide), od_fn (by decide), o3_lev]
theorem o4_check {as : List PV} : o4.fn "_check_parenthesis" as = parenF as := by unfold o4; rw [ext_ne (by decide), ext_ne (by decide), od_fn (by decide), o3_check]
theorem o4_word {as : List PV} : o4.fn "_law_word" as = cf o1 20 ["pairs", "room"] as := by unfold o4; rw [ext_ne (by decide), ext_ne (by decide), od_fn (by decide), o3_o2 (by decide), o2_word]

theorem law2 {N : List Int} {st : T17} (hN : textF N = some st) {r : Internal.Loc} {l : List (Str × PV)} (H : Has l r) (h : lk l "numbers" = some (.lst (N.map .int))) :
    ∃ r', Internal.exec o4 (scp 26) (s26 2) r = some (.next r') /\ Has (("ways", .lst (st.ways.map encW)) :: ("text", .str (S st.text)) :: l) r' := by
  have h1 := H _ _ h
  have e1 : o4.fn "_law_text" [.lst (N.map .int)] = some (encTW st) := by rw [o4_text]; exact text_eq hN
  unfold encTW at e1
  (generalize hsy : (s26 2) = Sy; (conv at hsy => (lhs; whnf)); subst hsy)
  first | apply go_n | apply go_ns
  . fail "x"
  . exact Has.up (s := .pv (.lst (st.ways.map encW))) rfl (Has.up (s := .pv (.str (S st.text))) rfl (H.frz _))
theorem law3 {T : List Nat} {ps : List PR} (hN : readF T = some ps) {r : Internal.Loc} {l : List (Str × PV)} (H : Has l r) (h : lk l "text" = some (.str (S T))) :
    ∃ r', Internal.exec o4 (scp 26) (s26 3) r = some (.next r') /\ Has (("pairs", .lst (ps.map encP)) :: l) r' := by
  have h1 := H _ _ h
  refine asg (o := o4) (by rfl) (by rfl) ?_ H
  have e1 : o4.fn "_law_read" [.str (S T)] = some (.lst (ps.map encP)) := by rw [o4_read]; exact read_eq hN
  (generalize hsy : (valE (s26 3)) = Sy; (conv at hsy => (lhs; whnf)); subst hsy)
  fail "x"
theorem enc_p0 {p : PR} : subsc (encP p) (.int 0) = some (.int p.place) := by rfl
theorem enc_p2 {p : PR} : subsc (encP p) (.int 2) = some (.str (S p.name)) := by rfl
theorem enc_p3 {p : PR} : subsc (encP p) (.int 3) = some (.int p.taken) := by rfl
theorem law4 {ps : List PR} (hp : ps.length <= 100) {r : Internal.Loc} {l : List (Str × PV)} (H : Has l r) (h : lk l "pairs" = some (.lst (ps.map encP))) :
    ∃ r', Internal.exec o4 (scp 26) (s26 4) r = some (.next r') /\ Has (("names", .lst (ps.map fun p => .str (S p.name))) :: l) r' := by
  have h1 := H _ _ h
  refine asg (o := o4) (by rfl) (by rfl) ?_ H
  (generalize hsy : (valE (s26 4)) = Sy; (conv at hsy => (lhs; whnf)); subst hsy)
  refine k_comp (u := .lst (ps.map encP)) ?_ iter_l (by decide) (turns_one (g := fun p : PR => PV.str (S p.name)) _ fun p hp => k_one (by decide) ?_) (by rw [List.length_map]; exact le_w (by assumption) (by decide))
  . fail "x"
  . have q := @enc_p2 p
    fail "x"
theorem law5 {ps : List PR} {ws : List (List Nat)} (hp : ps.length <= 100) (hw : ((-1 : Int) :: ps.map PR.place).mapM (fun room => wordF ps room) = some ws) {r : Internal.Loc} {l : List (Str × PV)} (H : Has l r) (h : lk l "pairs" = some (.lst (ps.map encP))) :
    ∃ r', Internal.exec o4 (scp 26) (s26 5) r = some (.next r') /\ Has (("words", .lst (ws.map fun w => .str (S w))) :: l) r' := by
  have h1 := H _ _ h
  refine asg (o := o4) (by rfl) (by rfl) ?_ H
  have e2 : bin .Add (.lst [.int (-1)]) (.lst (ps.map fun p => PV.int p.place)) = some (.lst (((-1 : Int) :: ps.map PR.place).map PV.int)) := by
    rw [y_add_ll (by rw [List.length_map]; exact Nat.le_trans (Nat.add_le_add_left (by assumption) 1) (by decide))]
    simp [Function.comp_def]
  (generalize hsy : (valE (s26 5)) = Sy; (conv at hsy => (lhs; whnf)); subst hsy)
  refine k_comp (u := .lst (((-1 : Int) :: ps.map PR.place).map PV.int)) ?_ iter_l (by decide) (turns_mapM (ec := fun w => PV.str (S w)) _ _ hw fun room w hr hw => k_one (by decide) ?_) (by rw [List.length_map, mapM_length hw, List.length_cons, List.length_map]; exact Nat.le_trans (Nat.succ_le_succ (by assumption)) (by decide))
  . with_reducible apply k_bin
    . fail "x"
    . refine k_comp (u := .lst (ps.map encP)) ?_ iter_l (by decide) (turns_one (g := fun p : PR => PV.int p.place) _ fun p hp => k_one (by decide) ?_) (by rw [List.length_map]; exact le_w (by assumption) (by decide))
      . fail "x"
      . have q := @enc_p0 p
        fail "x"
    . exact e2
  . have e3 : o4.fn "_law_word" [.lst (ps.map encP), .int room] = some (.str (S w)) := by rw [o4_word]; exact word_eq hw
    fail "x"
end

section
open PySem

noncomputable def capF (t : List (List Int)) (k : Nat) : Option Int := if k < t.length then (t[k]?).bind fun row => (row[t.length]?).map fun v => v - 1 else some 99
noncomputable def tabStep (ws : List (List Nat)) (c : Nat) (t : List (List Int)) (one : List Nat) : Option (Sum (List (List Int)) PV) :=
  if t.length <= 10 /\ c <= 10 then ((List.range (c + 1)).mapM fun k => (ws[k]?).bind fun w => (capF t k).bind fun m => levF one w m).map fun row => .inl (t ++ [row])
  else Option.none
noncomputable def tabF (ws : List (List Nat)) (c : Nat) : Option (List (List Int)) := match foldO (tabStep ws c) [] ws with
  | some (.inl t) => some t
  | _ => Option.none
structure I7 (l : List (Str × PV)) (t : List (List Int)) (r : Internal.Loc) : Prop where
  h : Has l r
  t : r "table" = some (.own (t.map encR))

theorem tab_step {ws : List (List Nat)} {c : Nat} {l : List (Str × PV)} (h1 : lk l "count" = some (.int c)) (h2 : lk l "words" = some (.lst (ws.map fun w => .str (S w)))) (h3 : (lk l "table").isNone = true) (h4 : (lk l "one").isNone = true) (h5 : (lk l "here").isNone = true)
    (t : List (List Int)) (one : List Nat) (r : Internal.Loc) (x : Sum (List (List Int)) PV) (hI : I7 l t r) (hs : tabStep ws c t one = some x) :
    ∃ out, (do let r' <- bindT (scp 26) (targetOf (s26 7)) (.str (S one)) r; Internal.execs o4 (scp 26) (bodyOf (s26 7)) r') = some out /\ Good (I7 l) x out := by
  have hb : bindT (scp 26) (targetOf (s26 7)) (.str (S one)) r = some (up "one" (.pv (.str (S one))) r) := by rfl
  rw [hb, bind_s]
  unfold tabStep at hs
  split at hs
  . rename_i hok
    refine cps fun U J => ?_
    obtain ⟨ht, hc⟩ := hok
    obtain ⟨row, hrow, rfl⟩ := Option.map_eq_some_iff.mp hs
    refine J ?_; clear J U
    have e : bodyOf (s26 7) = [nth (bodyOf (s26 7)) 0, nth (bodyOf (s26 7)) 1] := by rfl
    have g1 := hI.h _ _ h1
    have g2 := hI.h _ _ h2
    have g3 := hI.t
    have a2 := len_l (t.map encR) (by rw [List.length_map]; exact le_w (by assumption) (by decide))
    simp only [List.length_map] at a2
    rw [e]
    have x0 : Internal.exec o4 (scp 26) (nth (bodyOf (s26 7)) 0) (up "one" (.pv (.str (S one))) r) = some (.next (up "here" (.pv (.int t.length)) (up "one" (.pv (.str (S one))) r))) := by
      (generalize hsy : (nth (bodyOf (s26 7)) 0) = Sy; (conv at hsy => (lhs; whnf)); subst hsy)
      fail "x"
    rw [execs_next x0]
    have e1 := @bf_range1 ((c : Int) + 1) (tiny_n (n := c + 1) (Nat.succ_le_succ (by assumption)) (by decide))
    have e2 := rng_zero (c + 1)
    have e3 : ((c + 1 : Nat) : Int) = (c : Int) + 1 := rfl
    rw [e3] at e2
    refine ⟨.next (up "table" (.own ((t ++ [row]).map encR)) (frz [("one" : Str)] (up "here" (.pv (.int t.length)) (up "one" (.pv (.str (S one))) r)))), execs_one ?_, ?_⟩
    . (generalize hsy : (nth (bodyOf (s26 7)) 1) = Sy; (conv at hsy => (lhs; whnf)); subst hsy)
      rw [List.map_append]
      have hl' : (t.map encR).length < wide := by rw [List.length_map]; exact Nat.lt_of_le_of_lt (by assumption) (by decide)
      refine k_app (l := t.map encR) (u := encR row) (by decide) ?_ ?_ hl'
      . refine k_comp (u := .rng 0 ((c : Int) + 1) 1) ?_ (iter_r.trans (congrArg some e2)) (by decide) (turns_mapM (ec := PV.int) _ _ hrow fun k d hk hd => k_one (by decide) ?_) (by rw [List.length_map, mapM_length hrow, List.length_range]; exact le_w (Nat.succ_le_succ (by assumption)) (by decide))
        . fail "x"
        . refine cps fun U J => ?_
          obtain ⟨w, hw, hd⟩ := Option.bind_eq_some_iff.mp hd
          obtain ⟨m, hm, hd⟩ := Option.bind_eq_some_iff.mp hd
          refine J ?_; clear J U
          have hk' := List.mem_range.mp hk
          have b1 : subsc (.lst (ws.map fun w => PV.str (S w))) (.int k) = some (.str (S w)) := sub_pick (enc := fun w => PV.str (S w)) (by unfold pick?; rw [if_pos (by first | exact k1000 (by assumption) (by decide) | exact k1000 (Nat.le_of_lt (by assumption)) (by decide) | lia), Int.toNat_natCast]; exact hw)
          have b2 : o4.fn "_levenshtein_distance" [.str (S one), .str (S w), .int m] = some (.int d) := by rw [o4_lev]; exact lev_eq hd
          unfold capF at hm
          split at hm
          . rename_i hlt
            refine cps fun U J => ?_
            obtain ⟨rw', hrw, hm⟩ := Option.bind_eq_some_iff.mp hm
            obtain ⟨v, hv, rfl⟩ := Option.map_eq_some_iff.mp hm
            refine J ?_; clear J U
            have b3 : subsc (.lst (t.map encR)) (.int k) = some (encR rw') := sub_pick (enc := encR) (by unfold pick?; rw [if_pos (by first | exact k1000 (by assumption) (by decide) | exact k1000 (Nat.le_of_lt (by assumption)) (by decide) | lia), Int.toNat_natCast]; exact hrw)
            have b4 : subsc (encR rw') (.int t.length) = some (.int v) := sub_pick (enc := PV.int) (by unfold pick?; rw [if_pos (by first | exact k1000 (by assumption) (by decide) | exact k1000 (Nat.le_of_lt (by assumption)) (by decide) | lia), Int.toNat_natCast]; exact hv)
            have b5 : decide ((k : Int) < (t.length : Int)) = true := by rw [decide_eq_true_eq]; lia
            fail "x"
          . rename_i hlt
            cases hm
            have b5 : decide ((k : Int) < (t.length : Int)) = false := by rw [decide_eq_false_iff_not]; lia
            fail "x"
      . specialize g3
    . exact ⟨Has.up' h3 (Has.frz _ (Has.up' h5 (Has.up' h4 hI.h))), up_same⟩
  . cases hs

set_option tactic.hygienic true in
theorem law67 {ws : List (List Nat)} {c : Nat} {t : List (List Int)} {l : List (Str × PV)} {r : Internal.Loc} (hw : ws.length <= 100) (hT : tabF ws c = some t) (H : Has l r) (h1 : lk l "count" = some (.int c)) (h2 : lk l "words" = some (.lst (ws.map fun w => .str (S w)))) (h3 : (lk l "table").isNone = true) (h4 : (lk l "one").isNone = true) (h5 : (lk l "here").isNone = true) :
    ∃ r', (∀ ss, Internal.execs o4 (scp 26) (s26 6 :: s26 7 :: ss) r = Internal.execs o4 (scp 26) ss r') /\ Has (("table", encT t) :: l) r' := by
  have x0 : ∃ r0, Internal.exec o4 (scp 26) (s26 6) r = some (.next r0) /\ I7 l [] r0 := by
    (generalize hsy : (s26 6) = Sy; (conv at hsy => (lhs; whnf)); subst hsy)
    first | apply go_n | apply go_ns
    . fail "x"
    . exact ⟨Has.up' h3 H, by fail "x"⟩
  obtain ⟨r0, x0, I0⟩ := x0
  unfold tabF at hT
  split at hT
  . rename_i t' hp
    cases hT
    have g := I0.h _ _ h2
    obtain ⟨out, k1, k2⟩ := for_fold (I := I7 l) (enc := fun w => PV.str (S w)) (F := fun p r => do let r' <- bindT (scp 26) (targetOf (s26 7)) p r; Internal.execs o4 (scp 26) (bodyOf (s26 7)) r') (f := tabStep ws c)
      (fun w k r x hI hs => tab_step h1 h2 h3 h4 h5 w k r x hI hs) ws _ (frz (esc (iterE (s26 7))) r0) _ (by
        have q := I0.t
        refine ⟨I0.h.frz _, ?_⟩
        (generalize hsy : (iterE (s26 7)) = Sy; (conv at hsy => (lhs; whnf)); subst hsy)
        specialize q) hp
    rw [<- exec_for' (p := Stmt.pos (s26 7)) (by rfl) (x := .lst (ws.map fun w => .str (S w))) (by
      (generalize hsy : (iterE (s26 7)) = Sy; (conv at hsy => (lhs; whnf)); subst hsy)
      fail "x") rfl] at k1
    cases out with
    | ret p => exact k2.elim
    | next r' =>
      refine ⟨r', fun ss => by rw [execs_next x0, execs_next k1], fun y q hy => ?_⟩
      unfold lk at hy
      rw [List.lookup_cons] at hy
      split at hy
      . rename_i e
        cases hy
        have e' : y = "table" := by simpa using e
        rw [e', k2.t]; rfl
      . exact k2.h y q hy
  . cases hT
end

section
open PySem

theorem peqs_c {f : PV -> PV -> Option Bool} {a b : PV} {r t : List PV} : peqs f (a :: r) (b :: t) = (f a b).bind fun x => (peqs f r t).bind fun y => some (x && y) := rfl
theorem peqs_ints (n : Nat) : ∀ (a b : List Int), a.length = b.length -> peqs (peq n) (a.map .int) (b.map .int) = some (a == b)
  | [], [], _ => rfl
  | x :: a, y :: b, h => by
    have ih := peqs_ints n a b (by simpa using h)
    have e : peq n (.int x) (.int y) = some (x == y) := by cases n <;> rfl
    simp only [List.map_cons, peqs_c, e, ih, Option.bind_eq_bind, Option.bind_some]
    rfl
theorem peq_encR (n : Nat) (a b : List Int) : peq (n + 1) (encR a) (encR b) = some (a == b) := by
  have : peq (n + 1) (encR a) (encR b) = if (a.map PV.int).length = (b.map PV.int).length then peqs (peq n) (a.map .int) (b.map .int) else some false := rfl
  rw [this]
  split
  . rename_i h
    exact peqs_ints n a b (by simpa using h)
  . rename_i h
    congr 1
    rw [Eq.comm, beq_eq_false_iff_ne]
    intro e; subst e; exact h rfl
theorem peqs_encR (n : Nat) : ∀ (a b : List (List Int)), a.length = b.length -> peqs (peq (n + 1)) (a.map encR) (b.map encR) = some (a == b)
  | [], [], _ => rfl
  | x :: a, y :: b, h => by
    have ih := peqs_encR n a b (by simpa using h)
    have e := peq_encR n x y
    simp only [List.map_cons, peqs_c, e, ih, Option.bind_eq_bind, Option.bind_some]
    rfl
theorem eq_R (a : List Int) : cmp .NotEq (encR a) (encR a) = some false := by
  have : cmp .NotEq (encR a) (encR a) = (peq 8 (encR a) (encR a)).map (!·) := rfl
  rw [this, peq_encR]; simp
theorem eq_T (a : List (List Int)) : cmp .Eq (encT a) (encT a) = some true := by
  have : cmp .Eq (encT a) (encT a) = if (a.map encR).length = (a.map encR).length then peqs (peq 7) (a.map encR) (a.map encR) else some false := rfl
  rw [this, if_pos rfl, peqs_encR 6 a a rfl]; simp
theorem cnt_eq (l : List (List Int)) (a : List Int) (h : l.length <= wide) : bmeth .count (.lst (l.map encR)) [encR a] = some (.int (l.countP (· == a) : Nat)) := by
  have : bmeth .count (.lst (l.map encR)) [encR a] = if (l.map encR).length <= wide then (((l.map encR).mapM fun q => peq 8 q (encR a)).map fun bs => .int (bs.countP id : Nat)) else Option.none := rfl
  rw [this, if_pos (by rw [List.length_map]; exact h)]
  have e : (l.map encR).mapM (fun q => peq 8 q (encR a)) = some (l.map (· == a)) := by
    induction l with
    | nil => rfl
    | cons b l ih =>
      have ih := ih (by simp at h; lia) rfl
      simp only [List.map_cons, List.mapM_cons, peq_encR, ih, Option.bind_eq_bind, Option.bind_some]
      rfl
  rw [e, Option.map_some, List.countP_map]
  rfl
theorem one22 {k : Nat} (hk : k < 4) : subsc (.lst [.int 1, .int 2, .int 2, .int 1]) (.int k) = some (.int ([1, 2, 2, 1].getD k 0 : Int)) := by
  exact cases4 hk rfl rfl rfl rfl
theorem sub_getD {α : Type} (enc : α -> PV) (l : List α) (d : α) {k : Nat} (hk : k < l.length) (hb : k < 1000) : subsc (.lst (l.map enc)) (.int k) = some (enc (l.getD k d)) :=
  sub_pick (by unfold pick?; rw [if_pos (k1000 (Nat.le_of_lt_succ hb) (by decide)), Int.toNat_natCast]; simp [hk])

noncomputable def lensF (names : List (List Nat)) (c : Nat) : List Int := (List.range c).map fun (k : Nat) => ((names.getD k []).length : Int) * ([1, 2, 2, 1].getD k 0)
theorem mul22 {L k : Nat} (h : L <= 100) (hk : k < 4) : bin .Mult (.int (L : Int)) (.int ([1, 2, 2, 1].getD k 0)) = some (.int ((L : Int) * ([1, 2, 2, 1].getD k 0))) := by
  have q : ∀ k, k < 4 -> ∀ L, L < 101 -> (small ((L : Nat) : Int) && small ([1, 2, 2, 1].getD k 0)) = true := by decide
  exact y_mul (q k hk L (Nat.lt_succ_of_le h))
theorem law8 {names : List (List Nat)} {c : Nat} {t : List (List Int)} {dv : List Int} {l : List (Str × PV)} {r : Internal.Loc} (hc : c = 3 \/ c = 4) (hn : names.length = c) (hnl : ∀ n ∈ names, n.length <= 100)
    (hd : divF t = some dv) (hd2 : dueF (lensF names c) = some dv) (H : Has l r) (h1 : lk l "count" = some (.int c)) (h2 : lk l "names" = some (.lst (names.map fun n => .str (S n)))) (h3 : lk l "table" = some (encT t)) :
    ∃ r', Internal.exec o4 (scp 26) (s26 8) r = some (.next r') /\ Has l r' := by
  have g1 := H _ _ h1
  have g2 := H _ _ h2
  have g3 := H _ _ h3
  have e1 := @bf_range1 (c : Int) (tiny_n (c34 hc) (by decide))
  have e2 := rng_zero c
  have b1 : o4.fn "_law_divisors" [encT t] = some (encR dv) := by rw [o4_div]; exact div_eq hd
  have b2 : o4.fn "_law_due" [.lst ((lensF names c).map .int)] = some (encR dv) := by rw [o4_due]; exact due_eq hd2
  have b3 := eq_R dv
  (generalize hsy : (s26 8) = Sy; (conv at hsy => (lhs; whnf)); subst hsy)
  have e3 : ((List.range c).map fun (k : Nat) => PV.int (((names.getD k []).length : Int) * ([1, 2, 2, 1].getD k 0))) = (lensF names c).map PV.int := by unfold lensF; rw [List.map_map]; rfl
  apply go_n
  . with_reducible apply k_sF
    . with_reducible apply k_cmp
      . fail "x"
      . with_reducible apply k_call
        . decide
        . with_reducible apply k_s1
          . exact rfl
          . refine k_comp (u := .rng 0 c 1) ?_ (iter_r.trans (congrArg some e2)) (by decide) (Eq.trans (turns_one (g := fun (k : Nat) => PV.int (((names.getD k []).length : Int) * ([1, 2, 2, 1].getD k 0))) _ fun k hk => k_one (by decide) ?_) (congrArg some e3)) (by rw [<- e3, List.length_map, List.length_range]; exact le_w (c34 hc) (by decide))
            . fail "x"
            . have hk' := List.mem_range.mp hk
              have hk4 := Nat.lt_of_lt_of_le hk' (c34 hc)
              rw [<- hn] at hk'
              have q1 := sub_getD (fun n => PV.str (S n)) names [] (k := k) hk' (Nat.lt_trans hk4 (by decide))
              have q0 : (names.getD k []).length <= 100 := by
                have : names.getD k [] ∈ names := by simp [List.getD_eq_getElem?_getD, hk']
                exact hnl _ this
              have q2 := len_Str (names.getD k []) (le_w (by assumption) (by decide))
              have q3 := one22 (k := k) hk4
              have q4 := mul22 (k := k) q0 hk4
              fail "x"
          . fail "x"
        . fail "x"
      . exact b3
    . exact rfl
    . fail "x"
  . exact H

theorem enc_w {p : List Int × Nat} : encW p = .tup [encR p.1, .int p.2] := rfl
noncomputable def alpha8 : List Nat := [97, 98, 99, 100, 101, 102, 103, 104]
theorem law9 {names : List (List Nat)} {ways : List (List Int × Nat)} {l : List (Str × PV)} {r : Internal.Loc} (hnl : names.flatten.length <= 1000) (hw : ways.length <= 100)
    (hd : names.flatten = alpha8.take ((ways.map (·.2)).sum)) (H : Has l r) (h2 : lk l "names" = some (.lst (names.map fun n => .str (S n)))) (h3 : lk l "ways" = some (.lst (ways.map encW))) :
    ∃ r', Internal.exec o4 (scp 26) (s26 9) r = some (.next r') /\ Has l r' := by
  have g2 := H _ _ h2
  have g3 := H _ _ h3
  have b1 : bmeth .join (.str (Str.ofString "")) [.lst (names.map fun x => PV.str (S x))] = some (.str (S names.flatten)) := join_eq _ (by rw [<- List.length_flatten]; simp only [wide]; lia)
  have b2 : (Str.ofString "abcdefgh") = S alpha8 := by rfl
  have b3 : bf .sum [.lst (ways.map fun w => PV.int (w.2 : Int))] = some (.int (((ways.map (·.2)).sum : Nat) : Int)) := by
    have e1 : (ways.map fun w => PV.int (w.2 : Int)) = (ways.map fun w => (w.2 : Int)).map PV.int := by rw [List.map_map]; rfl
    rw [e1, sum_l]
    congr 2
    clear hd h3 g3 e1 hw
    induction ways with
    | nil => rfl
    | cons a l ih => simp [ih]
  have b4 := sl_str_to alpha8 ((ways.map (·.2)).sum) (by decide)
  have b5 : (S names.flatten == S (alpha8.take ((ways.map (·.2)).sum))) = true := by rw [S_eq, hd]; simp
  (generalize hsy : (s26 9) = Sy; (conv at hsy => (lhs; whnf)); subst hsy)
  apply go_n
  . with_reducible apply k_sF
    . with_reducible apply k_cmp
      . fail "x"
      . with_reducible apply k_slc
        . fail "x"
        . fail "x"
        . with_reducible apply k_o1
          with_reducible apply k_call
          . decide
          . with_reducible apply k_s1
            . exact rfl
            . refine k_comp (u := .lst (ways.map encW)) ?_ iter_l (by decide) (turns_one (g := fun w : List Int × Nat => PV.int (w.2 : Int)) _ fun w hw => k_pair (by decide) (by decide) ?_) (by rw [List.length_map]; exact Nat.le_trans hw (by decide))
              . fail "x"
              . fail "x"
            . fail "x"
          . fail "x"
        . fail "x"
        . exact b4
      . exact x_ne_ss
    . exact tr_h (by rw [b5]; rfl)
    . fail "x"
  . exact H

theorem law10 {ways : List (List Int × Nat)} {l : List (Str × PV)} {r : Internal.Loc} (hw : ways.length <= 100) (hw2 : ∀ w ∈ ways, w.1.length <= 100) (H : Has l r) (h3 : lk l "ways" = some (.lst (ways.map encW))) :
    ∃ r', Internal.exec o4 (scp 26) (s26 10) r = some (.next r') /\ Has (("rooms", .lst ((ways.map fun w => w.1.dropLast).map encR)) :: l) r' := by
  have g3 := H _ _ h3
  refine asg (o := o4) (by rfl) (by rfl) ?_ H
  (generalize hsy : (valE (s26 10)) = Sy; (conv at hsy => (lhs; whnf)); subst hsy)
  have e : PV.lst (((ways.map fun w => w.1.dropLast).map encR)) = .lst (ways.map fun w => encR w.1.dropLast) := by rw [List.map_map]; rfl
  rw [e]
  refine k_comp (u := .lst (ways.map encW)) ?_ iter_l (by decide) (turns_one (g := fun w : List Int × Nat => encR w.1.dropLast) _ fun w hw => k_pair (by decide) (by decide) ?_) (by rw [List.length_map]; exact Nat.le_trans hw (by decide))
  . fail "x"
  . have := hw2 w hw
    have e : slice (.lst (w.1.map .int)) .none (.int (-1)) .none = some (encR w.1.dropLast) := by
      have := sl_m1 (w.1.map PV.int) (by rw [List.length_map]; exact le_w (by assumption) (by decide))
      rw [<- List.map_dropLast] at this
      exact this
    fail "x"

noncomputable def countsF (rooms : List (List Int)) (c : Nat) : List Int := (List.range c).map fun k => (((rooms.drop k).countP (· == rooms.getD k [])  : Nat) : Int)
theorem law11 {ps : List PR} {rooms : List (List Int)} {c : Nat} {l : List (Str × PV)} {r : Internal.Loc} (hp : ps.length <= 100) (hc : c <= 100) (hr : rooms.length = c)
    (hd : ps.map (·.taken) = countsF rooms c) (H : Has l r) (h1 : lk l "count" = some (.int c)) (h2 : lk l "pairs" = some (.lst (ps.map encP))) (h3 : lk l "rooms" = some (.lst (rooms.map encR))) :
    ∃ r', Internal.exec o4 (scp 26) (s26 11) r = some (.next r') /\ Has l r' := by
  have g1 := H _ _ h1
  have g2 := H _ _ h2
  have g3 := H _ _ h3
  have e1 := @bf_range1 (c : Int) (tiny_n (by assumption) (by decide))
  have e2 := rng_zero c
  have b3 := eq_R (countsF rooms c)
  unfold encR at b3
  (generalize hsy : (s26 11) = Sy; (conv at hsy => (lhs; whnf)); subst hsy)
  have e3 : (ps.map fun p : PR => PV.int p.taken) = (countsF rooms c).map PV.int := by rw [<- hd, List.map_map]; rfl
  have e4 : ((List.range c).map fun k : Nat => PV.int (((rooms.drop k).countP (· == rooms.getD k []) : Nat) : Int)) = (countsF rooms c).map PV.int := by unfold countsF; rw [List.map_map]; rfl
  apply go_n
  . with_reducible apply k_sF
    . with_reducible apply k_cmp
      . refine k_comp (u := .lst (ps.map encP)) ?_ iter_l (by decide) (Eq.trans (turns_one (g := fun p : PR => PV.int p.taken) _ fun p hp => k_one (by decide) ?_) (congrArg some e3)) (by rw [<- e3, List.length_map]; exact le_w hp (by decide))
        . fail "x"
        . have q := @enc_p3 p
          fail "x"
      . refine k_comp (u := .rng 0 c 1) ?_ (iter_r.trans (congrArg some e2)) (by decide) (Eq.trans (turns_one (g := fun k : Nat => PV.int (((rooms.drop k).countP (· == rooms.getD k []) : Nat) : Int)) _ fun k hk => k_one (by decide) ?_) (congrArg some e4)) (by rw [<- e4, List.length_map, List.length_range]; exact le_w hc (by decide))
        . fail "x"
        . have hk' := List.mem_range.mp hk
          have q1 := sub_getD encR rooms [] (k := k) (by rw [hr]; exact hk') (Nat.lt_of_lt_of_le hk' (Nat.le_trans hc (by decide)))
          have q2 := sl_from (rooms.map encR) k (by rw [List.length_map, hr]; exact le_w hc (by decide))
          rw [<- List.map_drop] at q2
          have q3 := cnt_eq (rooms.drop k) (rooms.getD k []) (by rw [List.length_drop, hr]; exact le_w (Nat.le_trans (Nat.sub_le _ _) hc) (by decide))
          fail "x"
      . exact b3
    . exact rfl
    . fail "x"
  . exact H

theorem turns_nil {f : PV -> Option (List PV)} : ∀ (l : List PV), (∀ a ∈ l, f a = some []) -> turns f l = some []
  | [], _ => rfl
  | a :: l, h => by
    simp only [turns, h a List.mem_cons_self, turns_nil l fun b hb => h b (List.mem_cons_of_mem _ hb), Option.bind_eq_bind, Option.bind_some]
    rfl
theorem law12 {T : List Nat} {l : List (Str × PV)} {r : Internal.Loc} (hT : T.length <= 100) (k1 : okL (T.drop 1 ++ T.take 1) = true) (k2 : okL (T.drop 1) = true) (k3 : okL T.dropLast = true)
    (p1 : pgo 0 (T.drop 1 ++ T.take 1) = false) (p2 : pgo 0 (T.drop 1) = false) (p3 : pgo 0 T.dropLast = false) (H : Has l r) (h1 : lk l "text" = some (.str (S T))) :
    ∃ r', Internal.exec o4 (scp 26) (s26 12) r = some (.next r') /\ Has (("astray", .lst []) :: l) r' := by
  have g1 := H _ _ h1
  refine asg (o := o4) (by rfl) (by rfl) ?_ H
  have a1 := sl_str_from T 1 (le_w (by assumption) (by decide))
  have a2 := sl_str_to T 1 (le_w (by assumption) (by decide))
  have a3 := sl_str_neg T 0 (le_w (by assumption) (by decide))
  have e0 : (-(((0 : Nat) : Int) + 1)) = (-1 : Int) := by decide
  have e1 : (((1 : Nat) : Int)) = (1 : Int) := by decide
  have e2 : T.take (T.length - (0 + 1)) = T.dropLast := by rw [List.dropLast_eq_take]
  rw [e0, e2] at a3
  rw [e1] at a1 a2
  have a4 : bin .Add (.str (S (T.drop 1))) (.str (S (T.take 1))) = some (.str (S (T.drop 1 ++ T.take 1))) := by
    rw [y_add_ss (by rw [S_len, S_len, List.length_drop, List.length_take, n_one]; exact le_w (by assumption) (by decide)), S_app]
  have q : ∀ x : List Nat, okL x = true -> pgo 0 x = false -> o4.fn "_check_parenthesis" [.str (S x)] = some (.bool false) := fun x h1 h2 => by rw [o4_check, check_S h1, h2]
  have b1 := q _ k1 p1
  have b2 := q _ k2 p2
  have b3 := q _ k3 p3
  (generalize hsy : (valE (s26 12)) = Sy; (conv at hsy => (lhs; whnf)); subst hsy)
  refine k_comp (u := .lst [.str (S (T.drop 1 ++ T.take 1)), .str (S (T.drop 1)), .str (S T.dropLast)]) (l := []) ?_ iter_l (by decide) (turns_nil _ fun a ha => ?_) (by decide)
  . fail "x"
  . have h : ∃ x, a = .str (S x) /\ o4.fn "_check_parenthesis" [.str (S x)] = some (.bool false) := by
      rcases List.mem_cons.mp ha with h | ha
      . exact ⟨_, h, b1⟩
      rcases List.mem_cons.mp ha with h | ha
      . exact ⟨_, h, b2⟩
      exact ⟨_, List.mem_singleton.mp ha, b3⟩
    obtain ⟨x, rfl, b⟩ := h
    refine k_if1 (d := false) (v := .bool (!(false == false))) (w := .str (S x)) (by decide) ?_ rfl ?_
    . fail "x"
    . fail "x"
end

section
open PySem

theorem o4_int : o4.gl "int" = some (.typ "int") := by rfl
theorem typ_i {i : Int} : bf .type [.int i] = some (.typ "int") := rfl
theorem it_T {t : List (List Int)} : iterOf (encT t) = some (t.map encR) := rfl
theorem it_R {t : List Int} : iterOf (encR t) = some (t.map .int) := rfl
theorem law13 {t : List (List Int)} {l : List (Str × PV)} {r : Internal.Loc} (H : Has l r) (h1 : lk l "table" = some (encT t)) (h2 : lk l "astray" = some (.lst [])) :
    ∃ r', Internal.exec o4 (scp 26) (s26 13) r = some (.next r') /\ Has l r' := by
  have g1 := H _ _ h1
  have g2 := H _ _ h2
  have e1 : bin .Add (.lst []) (.lst []) = some (.lst []) := by rfl
  have e2 : cmp .NotEq (.lst []) (.lst []) = some false := by rfl
  (generalize hsy : (s26 13) = Sy; (conv at hsy => (lhs; whnf)); subst hsy)
  apply go_n
  . with_reducible apply k_sF
    . with_reducible apply k_cmp
      . with_reducible apply k_bin
        . fail "x"
        . refine k_comp (u := .lst (t.map encR)) (l := []) ?_ iter_l (by decide) (turns_nil _ fun a ha => ?_) (by decide)
          . have g1 : (r "table").map Slot.val = some (.lst (t.map encR)) := g1
            fail "x"
          . obtain ⟨row, _, rfl⟩ := List.mem_map.mp ha
            refine k_two (v := encR row) (by decide) ?_ iter_l rfl rfl (turns_nil _ fun b hb => ?_)
            . fail "x"
            . obtain ⟨i, _, rfl⟩ := List.mem_map.mp hb
              have o := o4_int
              have ty := @typ_i i
              refine k_if2 (d := false) (v := .bool (!("int" == "int"))) (w := .none) (by decide) ?_ (tr_h (by decide)) (fun h => nomatch h)
              fail "x"
        . exact e1
      . fail "x"
      . exact e2
    . exact rfl
    . fail "x"
  . exact H

noncomputable def szF (ways : List (List Int × Nat)) (c : Nat) : List Int := (List.range c).map fun (k : Nat) => ((ways.getD k ([], 0)).2 : Int) * ([1, 2, 2, 1].getD k 0)
noncomputable def abvF (ways : List (List Int × Nat)) : List (List Int) := [] :: ways.map (·.1)
theorem enc_w1 {p : List Int × Nat} : subsc (encW p) (.int 1) = some (.int p.2) := by rfl
theorem law14 {ways : List (List Int × Nat)} {c : Nat} {l : List (Str × PV)} {r : Internal.Loc} (hc : c = 3 \/ c = 4) (hw : ways.length = c) (hw2 : ∀ w ∈ ways, w.2 <= 100) (H : Has l r) (h1 : lk l "count" = some (.int c)) (h3 : lk l "ways" = some (.lst (ways.map encW))) :
    ∃ r', Internal.exec o4 (scp 26) (s26 14) r = some (.next r') /\ Has (("sizes", encR (szF ways c)) :: ("above", encT (abvF ways)) :: l) r' := by
  have g1 := H _ _ h1
  have g3 := H _ _ h3
  have e1 := @bf_range1 (c : Int) (tiny_n (c34 hc) (by decide))
  have e2 := rng_zero c
  have e3 : bin .Add (.lst [.lst []]) (.lst (ways.map fun w => encR w.1)) = some (encT (abvF ways)) := by
    rw [y_add_ll (by rw [List.length_map, hw]; exact Nat.le_trans (Nat.add_le_add_left (c34 hc) 1) (by decide))]
    unfold encT abvF
    rw [List.map_cons, List.map_map]; rfl
  (generalize hsy : (s26 14) = Sy; (conv at hsy => (lhs; whnf)); subst hsy)
  have e4 : ((List.range c).map fun k : Nat => PV.int (((ways.getD k ([], 0)).2 : Int) * ([1, 2, 2, 1].getD k 0))) = (szF ways c).map PV.int := by unfold szF; rw [List.map_map]; rfl
  apply go_n
  . with_reducible apply k_asg
    with_reducible apply k_att
    . with_reducible apply k_s1
      . exact rfl
      . with_reducible apply k_bin
        . fail "x"
        . refine k_comp (u := .lst (ways.map encW)) ?_ iter_l (by decide) (turns_one (g := fun w : List Int × Nat => encR w.1) _ fun w hw => k_pair (by decide) (by decide) ?_) (by rw [List.length_map, hw]; exact le_w (c34 hc) (by decide))
          . fail "x"
          . fail "x"
        . exact e3
      . with_reducible apply k_s1
        . exact rfl
        . refine k_comp (u := .rng 0 c 1) ?_ (iter_r.trans (congrArg some e2)) (by decide) (Eq.trans (turns_one (g := fun k : Nat => PV.int (((ways.getD k ([], 0)).2 : Int) * ([1, 2, 2, 1].getD k 0))) _ fun k hk => k_one (by decide) ?_) (congrArg some e4)) (by rw [<- e4, List.length_map, List.length_range]; exact le_w (c34 hc) (by decide))
          . fail "x"
          . have hk' := List.mem_range.mp hk
            have hk4 := Nat.lt_of_lt_of_le hk' (c34 hc)
            rw [<- hw] at hk'
            have q1 := sub_getD encW ways ([], 0) (k := k) hk' (Nat.lt_trans hk4 (by decide))
            have q0 : (ways.getD k ([], 0)).2 <= 100 := by
              have : ways.getD k ([], 0) ∈ ways := by simp [List.getD_eq_getElem?_getD, hk']
              exact hw2 _ this
            have q2 := @enc_w1 (ways.getD k ([], 0))
            have q3 := one22 (k := k) hk4
            have q4 := mul22 (k := k) q0 hk4
            fail "x"
        . fail "x"
    . exact rfl
    . exact rfl
    . exact rfl
    . decide
    . fail "x"
  . exact Has.up rfl (Has.up rfl (H.frz _))

noncomputable def expF (abv : List (List Int)) (sz : List Int) (c : Nat) : List (List Int) := abv.map fun one => abv.map fun other => (((List.range c).filter fun (k : Nat) => !(one.contains (k : Int) == other.contains (k : Int))).map fun k => sz.getD k 0).sum
theorem in_R {i : Int} {a : List Int} : cmp .In (.int i) (encR a) = some (a.contains i) := by
  have : cmp .In (.int i) (encR a) = (ints? (a.map PV.int)).map (·.contains i) := rfl
  rw [this, ints_map]; rfl
theorem ne_bb {u v : Bool} : cmp .NotEq (.bool u) (.bool v) = some (!(u == v)) := rfl
theorem law15 {abv : List (List Int)} {sz : List Int} {c : Nat} {l : List (Str × PV)} {r : Internal.Loc} (hc : c <= 100) (hs : sz.length = c) (ha : abv.length <= 100) (H : Has l r) (h1 : lk l "count" = some (.int c)) (h2 : lk l "above" = some (encT abv)) (h3 : lk l "sizes" = some (encR sz)) (h4 : lk l "table" = some (encT (expF abv sz c))) :
    Internal.exec o4 (scp 26) (s26 15) r = some (.ret (.bool true)) := by
  have g1 := H _ _ h1
  have g2 := H _ _ h2
  have g3 := H _ _ h3
  have g4 := H _ _ h4
  have e1 := @bf_range1 (c : Int) (tiny_n (by assumption) (by decide))
  have e2 := rng_zero c
  have e3 := eq_T (expF abv sz c)
  (generalize hsy : (s26 15) = Sy; (conv at hsy => (lhs; whnf)); subst hsy)
  with_reducible apply k_ret
  have e4 : PV.lst (abv.map fun (one : List Int) => encR (abv.map fun (other : List Int) => (((List.range c).filter fun (k : Nat) => !(one.contains (k : Int) == other.contains (k : Int))).map fun k => sz.getD k 0).sum)) = encT (expF abv sz c) := by unfold expF encT; rw [List.map_map]; rfl
  have g2 : (r "above").map Slot.val = some (.lst (abv.map encR)) := g2
  with_reducible apply k_cmp
  . fail "x"
  . refine Eq.trans (k_comp (u := .lst (abv.map encR)) ?_ iter_l (by decide) (turns_one (g := fun (one : List Int) => encR (abv.map fun (other : List Int) => (((List.range c).filter fun (k : Nat) => !(one.contains (k : Int) == other.contains (k : Int))).map fun k => sz.getD k 0).sum)) _ fun one hone => k_one (by decide) ?_) (by rw [List.length_map]; exact le_w (by assumption) (by decide))) (congrArg some e4)
    . fail "x"
    . have e6 : encR (abv.map fun (other : List Int) => (((List.range c).filter fun (k : Nat) => !(one.contains (k : Int) == other.contains (k : Int))).map fun k => sz.getD k 0).sum) = .lst (abv.map fun (other : List Int) => PV.int (((List.range c).filter fun (k : Nat) => !(one.contains (k : Int) == other.contains (k : Int))).map fun k => sz.getD k 0).sum) := by
        unfold encR; rw [List.map_map]; rfl
      rw [e6]
      refine k_comp (u := .lst (abv.map encR)) ?_ iter_l (by decide) (turns_one (g := fun (other : List Int) => PV.int (((List.range c).filter fun (k : Nat) => !(one.contains (k : Int) == other.contains (k : Int))).map fun k => sz.getD k 0).sum) _ fun other hother => k_one (by decide) ?_) (by rw [List.length_map]; exact le_w (by assumption) (by decide))
      . fail "x"
      . have e5 : (((List.range c).filter fun (k : Nat) => !(one.contains (k : Int) == other.contains (k : Int))).map fun (k : Nat) => PV.int (sz.getD k 0)) = (((List.range c).filter fun (k : Nat) => !(one.contains (k : Int) == other.contains (k : Int))).map fun k => sz.getD k 0).map PV.int := by rw [List.map_map]; rfl
        have s1 := sum_l (((List.range c).filter fun (k : Nat) => !(one.contains (k : Int) == other.contains (k : Int))).map fun k => sz.getD k 0)
        with_reducible apply k_call
        . decide
        . with_reducible apply k_s1
          . exact rfl
          . refine k_comp (u := .rng 0 c 1) ?_ (iter_r.trans (congrArg some e2)) (by decide) (Eq.trans (turns_filter (q := fun (k : Nat) => !(one.contains (k : Int) == other.contains (k : Int))) (g := fun (k : Nat) => PV.int (sz.getD k 0)) _ fun k hk => k_if1 (v := .bool (!(one.contains (k : Int) == other.contains (k : Int)))) (by decide) ?_ tr_b ?_) (congrArg some e5)) (by rw [List.length_map]; exact fl_w hc (by decide))
            . fail "x"
            . have i1 := @in_R k one
              have i2 := @in_R k other
              have i3 := @ne_bb (one.contains (k : Int)) (other.contains (k : Int))
              fail "x"
            . have hk' := List.mem_range.mp hk
              have q1 : subsc (encR sz) (.int k) = some (.int (sz.getD k 0)) := sub_getD PV.int sz 0 (k := k) (by rw [hs]; exact hk') (Nat.lt_of_lt_of_le hk' (Nat.le_trans hc (by decide)))
              fail "x"
          . fail "x"
        . fail "x"
  . exact e3

structure LawIs (script : List Int) (c : Nat) (st : T17) (ps : List PR) (ws : List (List Nat)) (t : List (List Int)) (dv : List Int) : Prop where
  cn : cntF script = c
  text : textF (numF script c) = some st
  read : readF st.text = some ps
  pl : ps.length = c
  words : ((-1 : Int) :: ps.map PR.place).mapM (fun room => wordF ps room) = some ws
  tab : tabF ws c = some t
  nl : ∀ p ∈ ps, p.name.length <= 100
  dvs : divF t = some dv
  due : dueF (lensF (ps.map (·.name)) c) = some dv
  wl : st.ways.length = c
  w1 : ∀ w ∈ st.ways, w.1.length <= 100
  w2 : ∀ w ∈ st.ways, w.2 <= 100
  names : (ps.map (·.name)).flatten = alpha8.take ((st.ways.map (·.2)).sum)
  counts : ps.map (·.taken) = countsF (st.ways.map fun w => w.1.dropLast) c
  tl : st.text.length <= 100
  k1 : okL (st.text.drop 1 ++ st.text.take 1) = true
  k2 : okL (st.text.drop 1) = true
  k3 : okL st.text.dropLast = true
  p1 : pgo 0 (st.text.drop 1 ++ st.text.take 1) = false
  p2 : pgo 0 (st.text.drop 1) = false
  p3 : pgo 0 st.text.dropLast = false
  last : t = expF (abvF st.ways) (szF st.ways c) c

theorem lawF_eq {script : List Int} {c : Nat} {st : T17} {ps : List PR} {ws : List (List Nat)} {t : List (List Int)} {dv : List Int} (hl : script.length <= 63) (L : LawIs script c st ps ws t dv) :
    lawF [.lst (script.map .int)] = some (.bool true) := by
  have hc : c = 3 \/ c = 4 := by
    rw [<- L.cn]; unfold cntF; split <;> simp
  unfold lawF cf
  refine callF_of (by rfl) ?_
  rw [bd26]
  have H0 : Has [("script", .lst (script.map .int))] (upAll ["script"] [.lst (script.map .int)] fun y_ => Option.none) := by
    intro x p h
    unfold lk at h
    rw [List.lookup_cons] at h
    split at h
    . rename_i e
      cases h
      have e' : x = "script" := by simpa using e
      subst e'
      rfl
    . cases h
  have hpl := L.pl
  obtain ⟨r0, x0, H0⟩ := law0 hl H0 rfl
  rw [execs_next x0]
  rw [L.cn] at H0
  obtain ⟨r1, x1, H1⟩ := law1 hl hc H0 rfl rfl
  rw [execs_next x1]
  obtain ⟨r2, x2, H2⟩ := law2 L.text H1 rfl
  rw [execs_next x2]
  obtain ⟨r3, x3, H3⟩ := law3 L.read H2 rfl
  rw [execs_next x3]
  obtain ⟨r4, x4, H4⟩ := law4 (by lia) H3 rfl
  rw [execs_next x4]
  obtain ⟨r5, x5, H5⟩ := law5 (by lia) L.words H4 rfl
  rw [execs_next x5]
  obtain ⟨r7, x7, H7⟩ := law67 (by rw [mapM_length L.words]; simp only [List.length_cons, List.length_map]; lia) L.tab H5 rfl rfl rfl rfl rfl
  rw [x7]
  have e8 : (ps.map fun p => PV.str (S p.name)) = (ps.map (·.name)).map fun n => PV.str (S n) := by rw [List.map_map]; rfl
  rw [e8] at H7
  have hnl : ∀ n ∈ ps.map (·.name), n.length <= 100 := fun n hn => by
    obtain ⟨p, hp, rfl⟩ := List.mem_map.mp hn
    exact L.nl p hp
  obtain ⟨r8, x8, H8⟩ := law8 hc (by rw [List.length_map, hpl]) hnl L.dvs L.due H7 rfl rfl rfl
  rw [execs_next x8]
  obtain ⟨r9, x9, H9⟩ := law9 (names := ps.map (·.name)) (ways := st.ways) (by rw [L.names, List.length_take, show alpha8.length = 8 from rfl]; lia) (by rw [L.wl]; lia) L.names H8 rfl rfl
  rw [execs_next x9]
  obtain ⟨r10, x10, H10⟩ := law10 (by rw [L.wl]; lia) L.w1 H9 rfl
  rw [execs_next x10]
  obtain ⟨r11, x11, H11⟩ := law11 (ps := ps) (rooms := st.ways.map fun w => w.1.dropLast) (c := c) (by lia) (by lia) (by rw [List.length_map, L.wl]) L.counts H10 rfl rfl rfl
  rw [execs_next x11]
  obtain ⟨r12, x12, H12⟩ := law12 L.tl L.k1 L.k2 L.k3 L.p1 L.p2 L.p3 H11 rfl
  rw [execs_next x12]
  obtain ⟨r13, x13, H13⟩ := law13 H12 rfl rfl
  rw [execs_next x13]
  obtain ⟨r14, x14, H14⟩ := law14 hc L.wl L.w2 H13 rfl rfl
  rw [execs_next x14]
  exact execs_ret (law15 (by lia) (by simp [szF]) (by simp only [abvF, List.length_cons, List.length_map, L.wl]; lia) H14 rfl rfl rfl (by rw [<- L.last]; rfl))
end

section
open PySem

structure K17 where
  text : List Nat
  pile : List Int
  piles : List (List Int)
  opened : Nat
noncomputable def chunkK (i n : Nat) : List Nat := (List.range n).map fun j => 100 + 3 * i + j
noncomputable def openK (L : List Nat) (s : K17) : K17 := ⟨s.text ++ [40] ++ chunkK s.opened (L.getD s.opened 1), s.pile ++ [(s.opened : Int)], s.piles ++ [s.pile ++ [(s.opened : Int)]], s.opened + 1⟩
noncomputable def closeK (s : K17) : K17 := ⟨s.text ++ [41], s.pile.dropLast, s.piles, s.opened⟩
noncomputable def stepK (c : Nat) (L : List Nat) (s : K17) (b : Bool) : K17 := if (decide (s.opened < c) && (s.pile.isEmpty || b)) = true then openK L s else closeK s
noncomputable def runK (c : Nat) (L : List Nat) : K17 -> List Bool -> K17
  | s, [] => s
  | s, b :: bs => runK c L (stepK c L s b) bs
theorem runK_c {c : Nat} {L : List Nat} {s : K17} {b : Bool} {bs : List Bool} : runK c L s (b :: bs) = runK c L (stepK c L s b) bs := rfl
noncomputable def allK (c : Nat) (L : List Nat) (P : K17 -> Bool) : Nat -> K17 -> Bool
  | 0, s => P s
  | n + 1, s => if s.opened < c then (if s.pile.isEmpty then allK c L P n (openK L s) else allK c L P n (openK L s) && allK c L P n (closeK s)) else allK c L P n (closeK s)
theorem allK_c {c : Nat} {L : List Nat} {P : K17 -> Bool} {n : Nat} {s : K17} : allK c L P (n + 1) s = if s.opened < c then (if s.pile.isEmpty then allK c L P n (openK L s) else allK c L P n (openK L s) && allK c L P n (closeK s)) else allK c L P n (closeK s) := rfl
theorem allK_ok {c : Nat} {L : List Nat} {P : K17 -> Bool} : ∀ (bs : List Bool) (s : K17), allK c L P bs.length s = true -> P (runK c L s bs) = true
  | [], s, h => h
  | b :: bs, s, h => by
    simp only [List.length_cons, allK_c] at h
    refine allK_ok bs _ ?_
    unfold stepK
    by_cases h1 : s.opened < c
    . rw [if_pos h1] at h
      cases h2 : s.pile.isEmpty with
      | true =>
        rw [if_pos h2] at h
        rw [if_pos (by simp [h1])]
        exact h
      | false =>
        rw [h2, if_neg (by decide), Bool.and_eq_true] at h
        cases b with
        | true => rw [if_pos (by simp [h1])]; exact h.1
        | false => rw [if_neg (by simp)]; exact h.2
    . rw [if_neg h1] at h
      rw [if_neg (by simp [h1])]
      exact h
noncomputable def k0 : K17 := ⟨[], [], [], 0⟩

noncomputable def rowK (T : List Nat) (place : Nat) : Option PR := match opensAt T place with
  | [] => Option.none
  | i0 :: _ => some ⟨place, (place : Int) + (((takenAt T place (place + 1 + i0)).headD []).length : Nat), (T.drop (place + 1)).take i0, ((takenAt T place (place + 1 + i0)).length : Nat)⟩
noncomputable def readK (T : List Nat) : Option (List PR) := ((List.range T.length).filter fun p => T.getD p 0 == 40).mapM (rowK T)
noncomputable def insOk (c : Nat) (piles : List (List Int)) (ps : List PR) : Bool := (List.range c).all fun k => (List.range c).all fun j =>
  match ps[k]?, ps[j]? with
  | some p, some q => (decide (p.place <= q.place) && decide (q.place < p.stop)) == (piles.getD j []).contains (k : Int)
  | _, _ => false
noncomputable def chkA (c : Nat) (L : List Nat) (s : K17) : Bool := match readK s.text with
  | Option.none => false
  | some ps => decide (ps.length = c) && decide (s.piles.length = c) && decide (s.text.length <= 100) && (s.text.all fun x => x == 40 || x == 41 || decide (100 <= x)) && (ps.map (·.name) == (List.range c).map fun i => chunkK i (L.getD i 1))
    && (ps.map (·.taken) == countsF (s.piles.map List.dropLast) c) && (s.piles.all fun p => decide (p.length <= 100)) && (ps.all fun p => decide (0 <= p.place)) && insOk c s.piles ps
    && !pgo 0 (s.text.drop 1 ++ s.text.take 1) && !pgo 0 (s.text.drop 1) && !pgo 0 s.text.dropLast
noncomputable def listsOf (v : List Nat) : Nat -> List (List Nat)
  | 0 => [[]]
  | n + 1 => (listsOf v n).flatMap fun l => v.map fun x => x :: l
noncomputable def allA (c : Nat) : Bool := (listsOf [1, 2, 3] c).all fun L => allK c L (chkA c L) (2 * c) k0

noncomputable def lt (Z : List Nat) (i : Nat) : Nat := ((List.range i).map fun k => Z.getD k 1).sum
noncomputable def nameB (Z : List Nat) (i : Nat) : List Nat := (List.range (Z.getD i 1)).map fun k => 97 + lt Z i + k
noncomputable def wordBs (names : List (List Nat)) (ins : Nat -> Bool) (w : List Nat) (k : Nat) : Option (Sum (List Nat) PV) := match names[k]? with
  | some nm => if cands.contains nm = true /\ k < 4 /\ w.length <= 1000 then some (.inl (w ++ (if ins k = true then upF nm else altF nm k))) else Option.none
  | Option.none => Option.none
noncomputable def wordB (names : List (List Nat)) (c : Nat) (ins : Nat -> Bool) : Option (List Nat) := match foldO (wordBs names ins) [] (List.range c) with
  | some (.inl w) => some w
  | _ => Option.none
noncomputable def zipW (piles : List (List Int)) (Z : List Nat) : List (List Int × Nat) := piles.zipIdx.map fun p => (p.1, Z.getD p.2 1)
noncomputable def chkB (c : Nat) (Z : List Nat) (s : K17) : Bool :=
  match (abvF (zipW s.piles Z)).mapM fun a => wordB ((List.range c).map (nameB Z)) c fun k => a.contains (k : Int) with
  | Option.none => false
  | some ws => (tabF ws c == some (expF (abvF (zipW s.piles Z)) (szF (zipW s.piles Z) c) c)) && (match divF (expF (abvF (zipW s.piles Z)) (szF (zipW s.piles Z) c) c) with
    | Option.none => false
    | some d => dueF (lensF ((List.range c).map (nameB Z)) c) == some d) && (((List.range c).map (nameB Z)).flatten == alpha8.take ((zipW s.piles Z).map (·.2)).sum) && (zipW s.piles Z).all fun w => decide (w.2 <= 100)
noncomputable def allB (c : Nat) : Bool := (listsOf [1, 2] c).all fun Z => allK c Z (chkB c Z) (2 * c) k0
end

section
open PySem

theorem chkA_111 : allK 3 [1, 1, 1] (chkA 3 [1, 1, 1]) 6 k0 = true := by decide +kernel
theorem chkA_112 : allK 3 [1, 1, 2] (chkA 3 [1, 1, 2]) 6 k0 = true := by decide +kernel
theorem chkA_113 : allK 3 [1, 1, 3] (chkA 3 [1, 1, 3]) 6 k0 = true := by decide +kernel
theorem chkA_121 : allK 3 [1, 2, 1] (chkA 3 [1, 2, 1]) 6 k0 = true := by decide +kernel
theorem chkA_122 : allK 3 [1, 2, 2] (chkA 3 [1, 2, 2]) 6 k0 = true := by decide +kernel
theorem chkA_123 : allK 3 [1, 2, 3] (chkA 3 [1, 2, 3]) 6 k0 = true := by decide +kernel
theorem chkA_131 : allK 3 [1, 3, 1] (chkA 3 [1, 3, 1]) 6 k0 = true := by decide +kernel
theorem chkA_132 : allK 3 [1, 3, 2] (chkA 3 [1, 3, 2]) 6 k0 = true := by decide +kernel
theorem chkA_133 : allK 3 [1, 3, 3] (chkA 3 [1, 3, 3]) 6 k0 = true := by decide +kernel
theorem chkA_211 : allK 3 [2, 1, 1] (chkA 3 [2, 1, 1]) 6 k0 = true := by decide +kernel
theorem chkA_212 : allK 3 [2, 1, 2] (chkA 3 [2, 1, 2]) 6 k0 = true := by decide +kernel
theorem chkA_213 : allK 3 [2, 1, 3] (chkA 3 [2, 1, 3]) 6 k0 = true := by decide +kernel
theorem chkA_221 : allK 3 [2, 2, 1] (chkA 3 [2, 2, 1]) 6 k0 = true := by decide +kernel
theorem chkA_222 : allK 3 [2, 2, 2] (chkA 3 [2, 2, 2]) 6 k0 = true := by decide +kernel
theorem chkA_223 : allK 3 [2, 2, 3] (chkA 3 [2, 2, 3]) 6 k0 = true := by decide +kernel
theorem chkA_231 : allK 3 [2, 3, 1] (chkA 3 [2, 3, 1]) 6 k0 = true := by decide +kernel
theorem chkA_232 : allK 3 [2, 3, 2] (chkA 3 [2, 3, 2]) 6 k0 = true := by decide +kernel
theorem chkA_233 : allK 3 [2, 3, 3] (chkA 3 [2, 3, 3]) 6 k0 = true := by decide +kernel
theorem chkA_311 : allK 3 [3, 1, 1] (chkA 3 [3, 1, 1]) 6 k0 = true := by decide +kernel
theorem chkA_312 : allK 3 [3, 1, 2] (chkA 3 [3, 1, 2]) 6 k0 = true := by decide +kernel
theorem chkA_313 : allK 3 [3, 1, 3] (chkA 3 [3, 1, 3]) 6 k0 = true := by decide +kernel
theorem chkA_321 : allK 3 [3, 2, 1] (chkA 3 [3, 2, 1]) 6 k0 = true := by decide +kernel
theorem chkA_322 : allK 3 [3, 2, 2] (chkA 3 [3, 2, 2]) 6 k0 = true := by decide +kernel
theorem chkA_323 : allK 3 [3, 2, 3] (chkA 3 [3, 2, 3]) 6 k0 = true := by decide +kernel
theorem chkA_331 : allK 3 [3, 3, 1] (chkA 3 [3, 3, 1]) 6 k0 = true := by decide +kernel
theorem chkA_332 : allK 3 [3, 3, 2] (chkA 3 [3, 3, 2]) 6 k0 = true := by decide +kernel
theorem chkA_333 : allK 3 [3, 3, 3] (chkA 3 [3, 3, 3]) 6 k0 = true := by decide +kernel
theorem chkA_1111 : allK 4 [1, 1, 1, 1] (chkA 4 [1, 1, 1, 1]) 8 k0 = true := by decide +kernel
theorem chkA_1112 : allK 4 [1, 1, 1, 2] (chkA 4 [1, 1, 1, 2]) 8 k0 = true := by decide +kernel
theorem chkA_1113 : allK 4 [1, 1, 1, 3] (chkA 4 [1, 1, 1, 3]) 8 k0 = true := by decide +kernel
theorem chkA_1121 : allK 4 [1, 1, 2, 1] (chkA 4 [1, 1, 2, 1]) 8 k0 = true := by decide +kernel
theorem chkA_1122 : allK 4 [1, 1, 2, 2] (chkA 4 [1, 1, 2, 2]) 8 k0 = true := by decide +kernel
theorem chkA_1123 : allK 4 [1, 1, 2, 3] (chkA 4 [1, 1, 2, 3]) 8 k0 = true := by decide +kernel
theorem chkA_1131 : allK 4 [1, 1, 3, 1] (chkA 4 [1, 1, 3, 1]) 8 k0 = true := by decide +kernel
theorem chkA_1132 : allK 4 [1, 1, 3, 2] (chkA 4 [1, 1, 3, 2]) 8 k0 = true := by decide +kernel
theorem chkA_1133 : allK 4 [1, 1, 3, 3] (chkA 4 [1, 1, 3, 3]) 8 k0 = true := by decide +kernel
theorem chkA_1211 : allK 4 [1, 2, 1, 1] (chkA 4 [1, 2, 1, 1]) 8 k0 = true := by decide +kernel
theorem chkA_1212 : allK 4 [1, 2, 1, 2] (chkA 4 [1, 2, 1, 2]) 8 k0 = true := by decide +kernel
theorem chkA_1213 : allK 4 [1, 2, 1, 3] (chkA 4 [1, 2, 1, 3]) 8 k0 = true := by decide +kernel
theorem chkA_1221 : allK 4 [1, 2, 2, 1] (chkA 4 [1, 2, 2, 1]) 8 k0 = true := by decide +kernel
theorem chkA_1222 : allK 4 [1, 2, 2, 2] (chkA 4 [1, 2, 2, 2]) 8 k0 = true := by decide +kernel
theorem chkA_1223 : allK 4 [1, 2, 2, 3] (chkA 4 [1, 2, 2, 3]) 8 k0 = true := by decide +kernel
theorem chkA_1231 : allK 4 [1, 2, 3, 1] (chkA 4 [1, 2, 3, 1]) 8 k0 = true := by decide +kernel
theorem chkA_1232 : allK 4 [1, 2, 3, 2] (chkA 4 [1, 2, 3, 2]) 8 k0 = true := by decide +kernel
theorem chkA_1233 : allK 4 [1, 2, 3, 3] (chkA 4 [1, 2, 3, 3]) 8 k0 = true := by decide +kernel
theorem chkA_1311 : allK 4 [1, 3, 1, 1] (chkA 4 [1, 3, 1, 1]) 8 k0 = true := by decide +kernel
theorem chkA_1312 : allK 4 [1, 3, 1, 2] (chkA 4 [1, 3, 1, 2]) 8 k0 = true := by decide +kernel
theorem chkA_1313 : allK 4 [1, 3, 1, 3] (chkA 4 [1, 3, 1, 3]) 8 k0 = true := by decide +kernel
theorem chkA_1321 : allK 4 [1, 3, 2, 1] (chkA 4 [1, 3, 2, 1]) 8 k0 = true := by decide +kernel
theorem chkA_1322 : allK 4 [1, 3, 2, 2] (chkA 4 [1, 3, 2, 2]) 8 k0 = true := by decide +kernel
theorem chkA_1323 : allK 4 [1, 3, 2, 3] (chkA 4 [1, 3, 2, 3]) 8 k0 = true := by decide +kernel
theorem chkA_1331 : allK 4 [1, 3, 3, 1] (chkA 4 [1, 3, 3, 1]) 8 k0 = true := by decide +kernel
theorem chkA_1332 : allK 4 [1, 3, 3, 2] (chkA 4 [1, 3, 3, 2]) 8 k0 = true := by decide +kernel
theorem chkA_1333 : allK 4 [1, 3, 3, 3] (chkA 4 [1, 3, 3, 3]) 8 k0 = true := by decide +kernel
theorem chkA_2111 : allK 4 [2, 1, 1, 1] (chkA 4 [2, 1, 1, 1]) 8 k0 = true := by decide +kernel
theorem chkA_2112 : allK 4 [2, 1, 1, 2] (chkA 4 [2, 1, 1, 2]) 8 k0 = true := by decide +kernel
theorem chkA_2113 : allK 4 [2, 1, 1, 3] (chkA 4 [2, 1, 1, 3]) 8 k0 = true := by decide +kernel
theorem chkA_2121 : allK 4 [2, 1, 2, 1] (chkA 4 [2, 1, 2, 1]) 8 k0 = true := by decide +kernel
theorem chkA_2122 : allK 4 [2, 1, 2, 2] (chkA 4 [2, 1, 2, 2]) 8 k0 = true := by decide +kernel
theorem chkA_2123 : allK 4 [2, 1, 2, 3] (chkA 4 [2, 1, 2, 3]) 8 k0 = true := by decide +kernel
theorem chkA_2131 : allK 4 [2, 1, 3, 1] (chkA 4 [2, 1, 3, 1]) 8 k0 = true := by decide +kernel
theorem chkA_2132 : allK 4 [2, 1, 3, 2] (chkA 4 [2, 1, 3, 2]) 8 k0 = true := by decide +kernel
theorem chkA_2133 : allK 4 [2, 1, 3, 3] (chkA 4 [2, 1, 3, 3]) 8 k0 = true := by decide +kernel
theorem chkA_2211 : allK 4 [2, 2, 1, 1] (chkA 4 [2, 2, 1, 1]) 8 k0 = true := by decide +kernel
theorem chkA_2212 : allK 4 [2, 2, 1, 2] (chkA 4 [2, 2, 1, 2]) 8 k0 = true := by decide +kernel
theorem chkA_2213 : allK 4 [2, 2, 1, 3] (chkA 4 [2, 2, 1, 3]) 8 k0 = true := by decide +kernel
theorem chkA_2221 : allK 4 [2, 2, 2, 1] (chkA 4 [2, 2, 2, 1]) 8 k0 = true := by decide +kernel
theorem chkA_2222 : allK 4 [2, 2, 2, 2] (chkA 4 [2, 2, 2, 2]) 8 k0 = true := by decide +kernel
theorem chkA_2223 : allK 4 [2, 2, 2, 3] (chkA 4 [2, 2, 2, 3]) 8 k0 = true := by decide +kernel
theorem chkA_2231 : allK 4 [2, 2, 3, 1] (chkA 4 [2, 2, 3, 1]) 8 k0 = true := by decide +kernel
theorem chkA_2232 : allK 4 [2, 2, 3, 2] (chkA 4 [2, 2, 3, 2]) 8 k0 = true := by decide +kernel
theorem chkA_2233 : allK 4 [2, 2, 3, 3] (chkA 4 [2, 2, 3, 3]) 8 k0 = true := by decide +kernel
theorem chkA_2311 : allK 4 [2, 3, 1, 1] (chkA 4 [2, 3, 1, 1]) 8 k0 = true := by decide +kernel
theorem chkA_2312 : allK 4 [2, 3, 1, 2] (chkA 4 [2, 3, 1, 2]) 8 k0 = true := by decide +kernel
theorem chkA_2313 : allK 4 [2, 3, 1, 3] (chkA 4 [2, 3, 1, 3]) 8 k0 = true := by decide +kernel
theorem chkA_2321 : allK 4 [2, 3, 2, 1] (chkA 4 [2, 3, 2, 1]) 8 k0 = true := by decide +kernel
theorem chkA_2322 : allK 4 [2, 3, 2, 2] (chkA 4 [2, 3, 2, 2]) 8 k0 = true := by decide +kernel
theorem chkA_2323 : allK 4 [2, 3, 2, 3] (chkA 4 [2, 3, 2, 3]) 8 k0 = true := by decide +kernel
theorem chkA_2331 : allK 4 [2, 3, 3, 1] (chkA 4 [2, 3, 3, 1]) 8 k0 = true := by decide +kernel
theorem chkA_2332 : allK 4 [2, 3, 3, 2] (chkA 4 [2, 3, 3, 2]) 8 k0 = true := by decide +kernel
theorem chkA_2333 : allK 4 [2, 3, 3, 3] (chkA 4 [2, 3, 3, 3]) 8 k0 = true := by decide +kernel
theorem chkA_3111 : allK 4 [3, 1, 1, 1] (chkA 4 [3, 1, 1, 1]) 8 k0 = true := by decide +kernel
theorem chkA_3112 : allK 4 [3, 1, 1, 2] (chkA 4 [3, 1, 1, 2]) 8 k0 = true := by decide +kernel
theorem chkA_3113 : allK 4 [3, 1, 1, 3] (chkA 4 [3, 1, 1, 3]) 8 k0 = true := by decide +kernel
theorem chkA_3121 : allK 4 [3, 1, 2, 1] (chkA 4 [3, 1, 2, 1]) 8 k0 = true := by decide +kernel
theorem chkA_3122 : allK 4 [3, 1, 2, 2] (chkA 4 [3, 1, 2, 2]) 8 k0 = true := by decide +kernel
theorem chkA_3123 : allK 4 [3, 1, 2, 3] (chkA 4 [3, 1, 2, 3]) 8 k0 = true := by decide +kernel
theorem chkA_3131 : allK 4 [3, 1, 3, 1] (chkA 4 [3, 1, 3, 1]) 8 k0 = true := by decide +kernel
theorem chkA_3132 : allK 4 [3, 1, 3, 2] (chkA 4 [3, 1, 3, 2]) 8 k0 = true := by decide +kernel
theorem chkA_3133 : allK 4 [3, 1, 3, 3] (chkA 4 [3, 1, 3, 3]) 8 k0 = true := by decide +kernel
theorem chkA_3211 : allK 4 [3, 2, 1, 1] (chkA 4 [3, 2, 1, 1]) 8 k0 = true := by decide +kernel
theorem chkA_3212 : allK 4 [3, 2, 1, 2] (chkA 4 [3, 2, 1, 2]) 8 k0 = true := by decide +kernel
theorem chkA_3213 : allK 4 [3, 2, 1, 3] (chkA 4 [3, 2, 1, 3]) 8 k0 = true := by decide +kernel
theorem chkA_3221 : allK 4 [3, 2, 2, 1] (chkA 4 [3, 2, 2, 1]) 8 k0 = true := by decide +kernel
theorem chkA_3222 : allK 4 [3, 2, 2, 2] (chkA 4 [3, 2, 2, 2]) 8 k0 = true := by decide +kernel
theorem chkA_3223 : allK 4 [3, 2, 2, 3] (chkA 4 [3, 2, 2, 3]) 8 k0 = true := by decide +kernel
theorem chkA_3231 : allK 4 [3, 2, 3, 1] (chkA 4 [3, 2, 3, 1]) 8 k0 = true := by decide +kernel
theorem chkA_3232 : allK 4 [3, 2, 3, 2] (chkA 4 [3, 2, 3, 2]) 8 k0 = true := by decide +kernel
theorem chkA_3233 : allK 4 [3, 2, 3, 3] (chkA 4 [3, 2, 3, 3]) 8 k0 = true := by decide +kernel
theorem chkA_3311 : allK 4 [3, 3, 1, 1] (chkA 4 [3, 3, 1, 1]) 8 k0 = true := by decide +kernel
theorem chkA_3312 : allK 4 [3, 3, 1, 2] (chkA 4 [3, 3, 1, 2]) 8 k0 = true := by decide +kernel
theorem chkA_3313 : allK 4 [3, 3, 1, 3] (chkA 4 [3, 3, 1, 3]) 8 k0 = true := by decide +kernel
theorem chkA_3321 : allK 4 [3, 3, 2, 1] (chkA 4 [3, 3, 2, 1]) 8 k0 = true := by decide +kernel
theorem chkA_3322 : allK 4 [3, 3, 2, 2] (chkA 4 [3, 3, 2, 2]) 8 k0 = true := by decide +kernel
theorem chkA_3323 : allK 4 [3, 3, 2, 3] (chkA 4 [3, 3, 2, 3]) 8 k0 = true := by decide +kernel
theorem chkA_3331 : allK 4 [3, 3, 3, 1] (chkA 4 [3, 3, 3, 1]) 8 k0 = true := by decide +kernel
theorem chkA_3332 : allK 4 [3, 3, 3, 2] (chkA 4 [3, 3, 3, 2]) 8 k0 = true := by decide +kernel
theorem chkA_3333 : allK 4 [3, 3, 3, 3] (chkA 4 [3, 3, 3, 3]) 8 k0 = true := by decide +kernel
theorem A3_ok {a b c : Nat} (ha : a = 1 \/ a = 2 \/ a = 3) (hb : b = 1 \/ b = 2 \/ b = 3) (hc : c = 1 \/ c = 2 \/ c = 3) : allK 3 [a, b, c] (chkA 3 [a, b, c]) 6 k0 = true := by
  rcases ha with h | h | h <;> subst h
  all_goals rcases hb with h | h | h <;> subst h
  all_goals rcases hc with h | h | h <;> subst h
  all_goals simp only [chkA_111, chkA_112, chkA_113, chkA_121, chkA_122, chkA_123, chkA_131, chkA_132, chkA_133, chkA_211, chkA_212, chkA_213, chkA_221, chkA_222, chkA_223, chkA_231, chkA_232, chkA_233, chkA_311, chkA_312, chkA_313, chkA_321, chkA_322, chkA_323, chkA_331, chkA_332, chkA_333]
theorem A4_ok {a b c d : Nat} (ha : a = 1 \/ a = 2 \/ a = 3) (hb : b = 1 \/ b = 2 \/ b = 3) (hc : c = 1 \/ c = 2 \/ c = 3) (hd : d = 1 \/ d = 2 \/ d = 3) : allK 4 [a, b, c, d] (chkA 4 [a, b, c, d]) 8 k0 = true := by
  rcases ha with h | h | h <;> subst h
  all_goals rcases hb with h | h | h <;> subst h
  all_goals rcases hc with h | h | h <;> subst h
  all_goals rcases hd with h | h | h <;> subst h
  all_goals simp only [chkA_1111, chkA_1112, chkA_1113, chkA_1121, chkA_1122, chkA_1123, chkA_1131, chkA_1132, chkA_1133, chkA_1211, chkA_1212, chkA_1213, chkA_1221, chkA_1222, chkA_1223, chkA_1231, chkA_1232, chkA_1233, chkA_1311, chkA_1312, chkA_1313, chkA_1321, chkA_1322, chkA_1323, chkA_1331, chkA_1332, chkA_1333, chkA_2111, chkA_2112, chkA_2113, chkA_2121, chkA_2122, chkA_2123, chkA_2131, chkA_2132, chkA_2133, chkA_2211, chkA_2212, chkA_2213, chkA_2221, chkA_2222, chkA_2223, chkA_2231, chkA_2232, chkA_2233, chkA_2311, chkA_2312, chkA_2313, chkA_2321, chkA_2322, chkA_2323, chkA_2331, chkA_2332, chkA_2333, chkA_3111, chkA_3112, chkA_3113, chkA_3121, chkA_3122, chkA_3123, chkA_3131, chkA_3132, chkA_3133, chkA_3211, chkA_3212, chkA_3213, chkA_3221, chkA_3222, chkA_3223, chkA_3231, chkA_3232, chkA_3233, chkA_3311, chkA_3312, chkA_3313, chkA_3321, chkA_3322, chkA_3323, chkA_3331, chkA_3332, chkA_3333]
end

section
open PySem

theorem sg (k : Nat) : ((-1 : Int) ^ k) = 1 \/ ((-1 : Int) ^ k) = -1 := by
  induction k with
  | zero => left; rfl
  | succ k ih =>
    rw [Int.pow_succ]; rcases ih with h | h <;> rw [h]
    . exact .inr rfl
    . exact .inl rfl
theorem small_of {x : Int} (h : x.natAbs <= 4611686018427387904) : small x = true := by
  have h := Int.ofNat_le.mpr h
  unfold small; simp only [big, Bool.and_eq_true, decide_eq_true_eq]
  exact ⟨Int.neg_lt_of_neg_lt (Int.lt_of_le_of_lt (Int.le_trans Int.le_natAbs (by rw [Int.natAbs_neg]; exact h)) (by decide)), Int.lt_of_le_of_lt (Int.le_trans Int.le_natAbs h) (by decide)⟩
theorem det_step1 {D : List (List Int) -> Option Int} {r0 : List Int} {rest : List (List Int)} {total x w : Int} {k : Nat} (hx : r0[k]? = some x) (hD : D (minorF rest k) = some w) (h1 : x.natAbs <= 4611686018427387904) (h2 : w.natAbs <= 4611686018427387904) :
    detStep D (r0 :: rest) total k = some (.inl (total + (-1) ^ k * x * w)) := by
  unfold detStep
  simp only [hx]
  by_cases h0 : x = 0
  . subst h0; simp
  . rw [if_neg (by simpa using h0), hD]
    have s1 : small ((-1 : Int) ^ k) = true := small_of (by rcases sg k with h | h <;> rw [h] <;> decide)
    have s2 := small_of h1
    have s3 : small ((-1 : Int) ^ k * x) = true := small_of (by
      rcases sg k with h | h <;> rw [h]
      . rw [Int.one_mul]; exact h1
      . rw [Int.neg_one_mul, Int.natAbs_neg]; exact h1)
    have s4 := small_of h2
    simp only [mulO, s1, s2, s3, s4, Bool.and_self, if_true, Option.bind_some, Option.map_some]
theorem det_fold {D : List (List Int) -> Option Int} {r0 : List Int} {rest : List (List Int)} {W : Nat -> Int} : ∀ (l : List Nat) (total : Int), (∀ k ∈ l, ∃ x, r0[k]? = some x /\ D (minorF rest k) = some (W k) /\ x.natAbs <= 4611686018427387904 /\ (W k).natAbs <= 4611686018427387904) ->
    foldO (detStep D (r0 :: rest)) total l = some (.inl (total + (l.map fun k => (-1) ^ k * r0.getD k 0 * W k).sum))
  | [], total, _ => by simp [foldO_n]
  | k :: l, total, h => by
    obtain ⟨x, h1, h2, h3, h4⟩ := h k List.mem_cons_self
    rw [foldO_l (det_step1 h1 h2 h3 h4), det_fold l _ fun j hj => h j (List.mem_cons_of_mem _ hj)]
    simp only [List.map_cons, List.sum_cons, List.getD_eq_getElem?_getD, h1, Option.getD_some]
    congr 2; lia
theorem detF_cons {n : Nat} {r0 : List Int} {rest : List (List Int)} (W : Nat -> Int) (ok : okSize (r0 :: rest) = true) (h : ∀ k ∈ List.range (rest.length + 1), ∃ x, r0[k]? = some x /\ detF n (minorF rest k) = some (W k) /\ x.natAbs <= 4611686018427387904 /\ (W k).natAbs <= 4611686018427387904) :
    detF (n + 1) (r0 :: rest) = some (((List.range (rest.length + 1)).map fun k => (-1) ^ k * r0.getD k 0 * W k).sum) := by
  rw [detF, if_pos ok]
  have : (r0 :: rest).length = rest.length + 1 := rfl
  rw [this, det_fold _ _ h]
  simp
noncomputable def det2 (a b c d : Int) : Int := a * d + -(b * c)
noncomputable def det3 (a b c d e f g h i : Int) : Int := a * det2 e f h i + (-(b * det2 d f g i) + c * det2 d e g h)
noncomputable def det4 (a b c d e f g h i j k l m n o p : Int) : Int := a * det3 f g h j k l n o p + (-(b * det3 e g h i k l m o p) + (c * det3 e f h i j l m n p + -(d * det3 e f g i j k m n o)))
noncomputable def det5 (a b c d e f g h i j k l m n o p q r s t u v w x y : Int) : Int := a * det4 g h i j l m n o q r s t v w x y + (-(b * det4 f h i j k m n o p r s t u w x y) + (c * det4 f g i j k l n o p q s t u v x y + (-(d * det4 f g h j k l m o p q r t u v w y) + e * det4 f g h i k l m n p q r s u v w x)))
noncomputable abbrev Bn (x : Int) : Prop := x.natAbs <= 1000
theorem mb {a x : Int} {M : Nat} (h1 : Bn a) (h2 : x.natAbs <= M) : (a * x).natAbs <= 1000 * M := by rw [Int.natAbs_mul]; exact Nat.mul_le_mul h1 h2
theorem nb {x y : Int} {m n : Nat} (h1 : x.natAbs <= m) (h2 : y.natAbs <= n) : (x + y).natAbs <= m + n := Nat.le_trans (Int.natAbs_add_le x y) (Nat.add_le_add h1 h2)
theorem ng {x : Int} {m : Nat} (h1 : x.natAbs <= m) : (-x).natAbs <= m := by rw [Int.natAbs_neg]; exact h1
theorem b2 {a b c d : Int} (ha : Bn a) (hb : Bn b) (hc : Bn c) (hd : Bn d) : (det2 a b c d).natAbs <= 2000000 := nb (mb ha hd) (ng (mb hb hc))
theorem b3 {a b c d e f g h i : Int} (ha : Bn a) (hb : Bn b) (hc : Bn c) (hd : Bn d) (he : Bn e) (hf : Bn f) (hg : Bn g) (hh : Bn h) (hi : Bn i) : (det3 a b c d e f g h i).natAbs <= 6000000000 :=
  nb (mb ha (b2 he hf hh hi)) (nb (ng (mb hb (b2 hd hf hg hi))) (mb hc (b2 hd he hg hh)))
theorem b4 {a b c d e f g h i j k l m n o p : Int} (ha : Bn a) (hb : Bn b) (hc : Bn c) (hd : Bn d) (he : Bn e) (hf : Bn f) (hg : Bn g) (hh : Bn h) (hi : Bn i) (hj : Bn j) (hk : Bn k) (hl : Bn l) (hm : Bn m) (hn : Bn n) (ho : Bn o) (hp : Bn p) : (det4 a b c d e f g h i j k l m n o p).natAbs <= 24000000000000 :=
  nb (mb ha (b3 hf hg hh hj hk hl hn ho hp)) (nb (ng (mb hb (b3 he hg hh hi hk hl hm ho hp))) (nb (mb hc (b3 he hf hh hi hj hl hm hn hp)) (ng (mb hd (b3 he hf hg hi hj hk hm hn ho)))))
theorem le_2 {x : Int} (h : x.natAbs <= 2000000) : x.natAbs <= 4611686018427387904 := Nat.le_trans h (by decide)
theorem le_3 {x : Int} (h : x.natAbs <= 6000000000) : x.natAbs <= 4611686018427387904 := Nat.le_trans h (by decide)
theorem le_4 {x : Int} (h : x.natAbs <= 24000000000000) : x.natAbs <= 4611686018427387904 := Nat.le_trans h (by decide)
theorem le_n {x : Int} (h : Bn x) : x.natAbs <= 4611686018427387904 := Nat.le_trans h (by decide)
theorem k2 {P : Nat -> Prop} (a : P 0) (b : P 1) : ∀ k ∈ List.range 2, P k := by
  intro k hk
  match k, List.mem_range.mp hk with
  | 0, _ => exact a
  | 1, _ => exact b
theorem k3 {P : Nat -> Prop} (a : P 0) (b : P 1) (c : P 2) : ∀ k ∈ List.range 3, P k := by
  intro k hk
  match k, List.mem_range.mp hk with
  | 0, _ => exact a
  | 1, _ => exact b
  | 2, _ => exact c
theorem k4 {P : Nat -> Prop} (a : P 0) (b : P 1) (c : P 2) (d : P 3) : ∀ k ∈ List.range 4, P k := by
  intro k hk
  match k, List.mem_range.mp hk with
  | 0, _ => exact a
  | 1, _ => exact b
  | 2, _ => exact c
  | 3, _ => exact d
theorem k5 {P : Nat -> Prop} (a : P 0) (b : P 1) (c : P 2) (d : P 3) (e : P 4) : ∀ k ∈ List.range 5, P k := by
  intro k hk
  match k, List.mem_range.mp hk with
  | 0, _ => exact a
  | 1, _ => exact b
  | 2, _ => exact c
  | 3, _ => exact d
  | 4, _ => exact e
theorem d0 {n : Nat} : detF (n + 1) [] = some 1 := by rfl
theorem d1 {n : Nat} {a : Int} (ha : Bn a) : detF (n + 2) [[a]] = some a := by
  rw [detF_cons (fun y_ => 1) (by rfl)]
  . simp
  . intro k hk
    have : k = 0 := by simpa using hk
    subst this
    exact ⟨a, rfl, d0, by simp only [Bn] at ha; lia, by decide⟩
theorem d2 {n : Nat} {a b c d : Int} (ha : Bn a) (hb : Bn b) (hc : Bn c) (hd : Bn d) : detF (n + 3) [[a, b], [c, d]] = some (det2 a b c d) := by
  rw [detF_cons (fun k => [d, c].getD k 0) (by rfl)]
  . simp [List.range_succ, det2, Int.neg_mul]
  . exact k2 ⟨a, rfl, d1 hd, le_n ha, le_n hd⟩ ⟨b, rfl, d1 hc, le_n hb, le_n hc⟩
theorem d3 {N : Nat} {a b c d e f g h i : Int} (ha : Bn a) (hb : Bn b) (hc : Bn c) (hd : Bn d) (he : Bn e) (hf : Bn f) (hg : Bn g) (hh : Bn h) (hi : Bn i) : detF (N + 4) [[a, b, c], [d, e, f], [g, h, i]] = some (det3 a b c d e f g h i) := by
  rw [detF_cons (fun k => [det2 e f h i, det2 d f g i, det2 d e g h].getD k 0) (by rfl)]
  . simp [List.range_succ, det3, Int.neg_mul]
  . exact k3 ⟨a, rfl, d2 he hf hh hi, le_n ha, le_2 (b2 he hf hh hi)⟩ ⟨b, rfl, d2 hd hf hg hi, le_n hb, le_2 (b2 hd hf hg hi)⟩ ⟨c, rfl, d2 hd he hg hh, le_n hc, le_2 (b2 hd he hg hh)⟩
theorem d4 {N : Nat} {a b c d e f g h i j k l m n o p : Int} (ha : Bn a) (hb : Bn b) (hc : Bn c) (hd : Bn d) (he : Bn e) (hf : Bn f) (hg : Bn g) (hh : Bn h) (hi : Bn i) (hj : Bn j) (hk : Bn k) (hl : Bn l) (hm : Bn m) (hn : Bn n) (ho : Bn o) (hp : Bn p) :
    detF (N + 5) [[a, b, c, d], [e, f, g, h], [i, j, k, l], [m, n, o, p]] = some (det4 a b c d e f g h i j k l m n o p) := by
  rw [detF_cons (fun z => [det3 f g h j k l n o p, det3 e g h i k l m o p, det3 e f h i j l m n p, det3 e f g i j k m n o].getD z 0) (by rfl)]
  . simp [List.range_succ, det4, Int.neg_mul]
  . exact k4 ⟨a, rfl, d3 hf hg hh hj hk hl hn ho hp, le_n ha, le_3 (b3 hf hg hh hj hk hl hn ho hp)⟩ ⟨b, rfl, d3 he hg hh hi hk hl hm ho hp, le_n hb, le_3 (b3 he hg hh hi hk hl hm ho hp)⟩
      ⟨c, rfl, d3 he hf hh hi hj hl hm hn hp, le_n hc, le_3 (b3 he hf hh hi hj hl hm hn hp)⟩ ⟨d, rfl, d3 he hf hg hi hj hk hm hn ho, le_n hd, le_3 (b3 he hf hg hi hj hk hm hn ho)⟩
theorem d5 {N : Nat} {a b c d e f g h i j k l m n o p q r s t u v w x y : Int} (ha : Bn a) (hb : Bn b) (hc : Bn c) (hd : Bn d) (he : Bn e) (hf : Bn f) (hg : Bn g) (hh : Bn h) (hi : Bn i) (hj : Bn j) (hk : Bn k) (hl : Bn l) (hm : Bn m) (hn : Bn n) (ho : Bn o) (hp : Bn p) (hq : Bn q) (hr : Bn r) (hs : Bn s) (ht : Bn t) (hu : Bn u) (hv : Bn v) (hw : Bn w) (hx : Bn x) (hy : Bn y) :
    detF (N + 6) [[a, b, c, d, e], [f, g, h, i, j], [k, l, m, n, o], [p, q, r, s, t], [u, v, w, x, y]] = some (det5 a b c d e f g h i j k l m n o p q r s t u v w x y) := by
  rw [detF_cons (fun z => [det4 g h i j l m n o q r s t v w x y, det4 f h i j k m n o p r s t u w x y, det4 f g i j k l n o p q s t u v x y, det4 f g h j k l m o p q r t u v w y, det4 f g h i k l m n p q r s u v w x].getD z 0) (by rfl)]
  . simp [List.range_succ, det5, Int.neg_mul]
  . exact k5 ⟨a, rfl, d4 hg hh hi hj hl hm hn ho hq hr hs ht hv hw hx hy, le_n ha, le_4 (b4 hg hh hi hj hl hm hn ho hq hr hs ht hv hw hx hy)⟩ ⟨b, rfl, d4 hf hh hi hj hk hm hn ho hp hr hs ht hu hw hx hy, le_n hb, le_4 (b4 hf hh hi hj hk hm hn ho hp hr hs ht hu hw hx hy)⟩
      ⟨c, rfl, d4 hf hg hi hj hk hl hn ho hp hq hs ht hu hv hx hy, le_n hc, le_4 (b4 hf hg hi hj hk hl hn ho hp hq hs ht hu hv hx hy)⟩ ⟨d, rfl, d4 hf hg hh hj hk hl hm ho hp hq hr ht hu hv hw hy, le_n hd, le_4 (b4 hf hg hh hj hk hl hm ho hp hq hr ht hu hv hw hy)⟩
      ⟨e, rfl, d4 hf hg hh hi hk hl hm hn hp hq hr hs hu hv hw hx, le_n he, le_4 (b4 hf hg hh hi hk hl hm hn hp hq hr hs hu hv hw hx)⟩
section un
variable {α β : Type}
noncomputable def un0 (x : Option β) : List α -> Option β
  | [] => x
  | _ :: _ => Option.none
noncomputable def un1 (f : α -> Option β) : List α -> Option β
  | a :: l => un0 (f a) l
  | [] => Option.none
noncomputable def un2 (f : α -> α -> Option β) : List α -> Option β
  | a :: l => un1 (f a) l
  | [] => Option.none
noncomputable def un3 (f : α -> α -> α -> Option β) : List α -> Option β
  | a :: l => un2 (f a) l
  | [] => Option.none
noncomputable def un4 (f : α -> α -> α -> α -> Option β) : List α -> Option β
  | a :: l => un3 (f a) l
  | [] => Option.none
noncomputable def un5 (f : α -> α -> α -> α -> α -> Option β) : List α -> Option β
  | a :: l => un4 (f a) l
  | [] => Option.none
@[elab_as_elim] theorem un1_ind {f : α -> Option β} {y : β} {P : List α -> Prop} {l : List α} (h : un1 f l = some y) (k : ∀ a, f a = some y -> P [a]) : P l := by
  cases l with
  | nil => exact ns h
  | cons a l => cases l with
    | nil => exact k a h
    | cons => exact ns h
@[elab_as_elim] theorem un2_ind {f : α -> α -> Option β} {y : β} {P : List α -> Prop} {l : List α} (h : un2 f l = some y) (k : ∀ a b, f a b = some y -> P [a, b]) : P l := by
  cases l with
  | nil => exact ns h
  | cons a l => exact un1_ind (P := fun l => P (a :: l)) (f := f a) h (k a)
@[elab_as_elim] theorem un3_ind {f : α -> α -> α -> Option β} {y : β} {P : List α -> Prop} {l : List α} (h : un3 f l = some y) (k : ∀ a b c, f a b c = some y -> P [a, b, c]) : P l := by
  cases l with
  | nil => exact ns h
  | cons a l => exact un2_ind (P := fun l => P (a :: l)) (f := f a) h (k a)
@[elab_as_elim] theorem un4_ind {f : α -> α -> α -> α -> Option β} {y : β} {P : List α -> Prop} {l : List α} (h : un4 f l = some y) (k : ∀ a b c d, f a b c d = some y -> P [a, b, c, d]) : P l := by
  cases l with
  | nil => exact ns h
  | cons a l => exact un3_ind (P := fun l => P (a :: l)) (f := f a) h (k a)
@[elab_as_elim] theorem un5_ind {f : α -> α -> α -> α -> α -> Option β} {y : β} {P : List α -> Prop} {l : List α} (h : un5 f l = some y) (k : ∀ a b c d e, f a b c d e = some y -> P [a, b, c, d, e]) : P l := by
  cases l with
  | nil => exact ns h
  | cons a l => exact un4_ind (P := fun l => P (a :: l)) (f := f a) h (k a)
end un
noncomputable def bndT (t : List (List Int)) : Bool := t.all fun r => r.all fun x => decide (x.natAbs <= 1000)
noncomputable def fastD (t : List (List Int)) : Option Int :=
  if t.length = 1 then un1 (un1 some) t
  else if t.length = 2 then un2 (fun r1 r2 => un2 (fun a b => un2 (fun c d => some (det2 a b c d)) r2) r1) t
  else if t.length = 3 then un3 (fun r1 r2 r3 => un3 (fun a b c => un3 (fun d e f => un3 (fun g h i => some (det3 a b c d e f g h i)) r3) r2) r1) t
  else if t.length = 4 then un4 (fun r1 r2 r3 r4 => un4 (fun a b c d => un4 (fun e f g h => un4 (fun i j k l => un4 (fun m n o p => some (det4 a b c d e f g h i j k l m n o p)) r4) r3) r2) r1) t
  else un5 (fun r1 r2 r3 r4 r5 => un5 (fun a b c d e => un5 (fun f g h i j => un5 (fun k l m n o => un5 (fun p q r s t => un5 (fun u v w x y => some (det5 a b c d e f g h i j k l m n o p q r s t u v w x y)) r5) r4) r3) r2) r1) t
theorem row1 {a : Int} (h : ([a].all fun x => decide (x.natAbs <= 1000)) = true) : Bn a := by
  simpa only [List.all_cons, List.all_nil, Bool.and_true, Bool.and_eq_true, decide_eq_true_eq] using h
theorem row2 {a b : Int} (h : ([a, b].all fun x => decide (x.natAbs <= 1000)) = true) : Bn a /\ Bn b := by
  simpa only [List.all_cons, List.all_nil, Bool.and_true, Bool.and_eq_true, decide_eq_true_eq] using h
theorem row3 {a b c : Int} (h : ([a, b, c].all fun x => decide (x.natAbs <= 1000)) = true) : Bn a /\ Bn b /\ Bn c := by
  simpa only [List.all_cons, List.all_nil, Bool.and_true, Bool.and_eq_true, decide_eq_true_eq] using h
theorem row4 {a b c d : Int} (h : ([a, b, c, d].all fun x => decide (x.natAbs <= 1000)) = true) : Bn a /\ Bn b /\ Bn c /\ Bn d := by
  simpa only [List.all_cons, List.all_nil, Bool.and_true, Bool.and_eq_true, decide_eq_true_eq] using h
theorem row5 {a b c d e : Int} (h : ([a, b, c, d, e].all fun x => decide (x.natAbs <= 1000)) = true) : Bn a /\ Bn b /\ Bn c /\ Bn d /\ Bn e := by
  simpa only [List.all_cons, List.all_nil, Bool.and_true, Bool.and_eq_true, decide_eq_true_eq] using h
theorem bnd1 {r1 : List Int} (h : bndT [r1] = true) : (r1.all fun x => decide (x.natAbs <= 1000)) = true := by
  simpa only [bndT, List.all_cons, List.all_nil, Bool.and_true, Bool.and_eq_true] using h
theorem bnd2 {r1 r2 : List Int} (h : bndT [r1, r2] = true) : (r1.all fun x => decide (x.natAbs <= 1000)) = true /\ (r2.all fun x => decide (x.natAbs <= 1000)) = true := by
  simpa only [bndT, List.all_cons, List.all_nil, Bool.and_true, Bool.and_eq_true] using h
theorem bnd3 {r1 r2 r3 : List Int} (h : bndT [r1, r2, r3] = true) : (r1.all fun x => decide (x.natAbs <= 1000)) = true /\ (r2.all fun x => decide (x.natAbs <= 1000)) = true /\ (r3.all fun x => decide (x.natAbs <= 1000)) = true := by
  simpa only [bndT, List.all_cons, List.all_nil, Bool.and_true, Bool.and_eq_true] using h
theorem bnd4 {r1 r2 r3 r4 : List Int} (h : bndT [r1, r2, r3, r4] = true) : (r1.all fun x => decide (x.natAbs <= 1000)) = true /\ (r2.all fun x => decide (x.natAbs <= 1000)) = true /\ (r3.all fun x => decide (x.natAbs <= 1000)) = true /\ (r4.all fun x => decide (x.natAbs <= 1000)) = true := by
  simpa only [bndT, List.all_cons, List.all_nil, Bool.and_true, Bool.and_eq_true] using h
theorem bnd5 {r1 r2 r3 r4 r5 : List Int} (h : bndT [r1, r2, r3, r4, r5] = true) : (r1.all fun x => decide (x.natAbs <= 1000)) = true /\ (r2.all fun x => decide (x.natAbs <= 1000)) = true /\ (r3.all fun x => decide (x.natAbs <= 1000)) = true /\ (r4.all fun x => decide (x.natAbs <= 1000)) = true /\ (r5.all fun x => decide (x.natAbs <= 1000)) = true := by
  simpa only [bndT, List.all_cons, List.all_nil, Bool.and_true, Bool.and_eq_true] using h
theorem fast2 {t : List (List Int)} {z : Int} (hb : bndT t = true) (h : un2 (fun r1 r2 => un2 (fun a b => un2 (fun c d => some (det2 a b c d)) r2) r1) t = some z) : detF 7 t = some z := by
  revert hb
  refine un2_ind (P := fun t => bndT t = true -> detF 7 t = some z) h fun r1 r2 h hb => ?_
  have R := bnd2 hb
  clear hb
  have B1 := R.1
  have B2 := R.2
  clear R
  revert B1
  refine un2_ind h fun a b h B1 => ?_
  replace B1 := row2 B1
  revert B2
  refine un2_ind h fun c d h B2 => ?_
  replace B2 := row2 B2
  rw [<- Option.some.inj h]
  exact d2 B1.1 B1.2 B2.1 B2.2
theorem fast3 {t : List (List Int)} {z : Int} (hb : bndT t = true) (h : un3 (fun r1 r2 r3 => un3 (fun a b c => un3 (fun d e f => un3 (fun g h i => some (det3 a b c d e f g h i)) r3) r2) r1) t = some z) : detF 7 t = some z := by
  revert hb
  refine un3_ind (P := fun t => bndT t = true -> detF 7 t = some z) h fun r1 r2 r3 h hb => ?_
  have R := bnd3 hb
  clear hb
  have B1 := R.1
  have B2 := R.2.1
  have B3 := R.2.2
  clear R
  revert B1
  refine un3_ind h fun a b c h B1 => ?_
  replace B1 := row3 B1
  revert B2
  refine un3_ind h fun d e f h B2 => ?_
  replace B2 := row3 B2
  revert B3
  refine un3_ind h fun g h i h B3 => ?_
  replace B3 := row3 B3
  rw [<- Option.some.inj h]
  exact d3 B1.1 B1.2.1 B1.2.2 B2.1 B2.2.1 B2.2.2 B3.1 B3.2.1 B3.2.2
theorem fast4 {t : List (List Int)} {z : Int} (hb : bndT t = true) (h : un4 (fun r1 r2 r3 r4 => un4 (fun a b c d => un4 (fun e f g h => un4 (fun i j k l => un4 (fun m n o p => some (det4 a b c d e f g h i j k l m n o p)) r4) r3) r2) r1) t = some z) : detF 7 t = some z := by
  revert hb
  refine un4_ind (P := fun t => bndT t = true -> detF 7 t = some z) h fun r1 r2 r3 r4 h hb => ?_
  have R := bnd4 hb
  clear hb
  have B1 := R.1
  have B2 := R.2.1
  have B3 := R.2.2.1
  have B4 := R.2.2.2
  clear R
  revert B1
  refine un4_ind h fun a b c d h B1 => ?_
  replace B1 := row4 B1
  revert B2
  refine un4_ind h fun e f g h h B2 => ?_
  replace B2 := row4 B2
  revert B3
  refine un4_ind h fun i j k l h B3 => ?_
  replace B3 := row4 B3
  revert B4
  refine un4_ind h fun m n o p h B4 => ?_
  replace B4 := row4 B4
  rw [<- Option.some.inj h]
  exact d4 B1.1 B1.2.1 B1.2.2.1 B1.2.2.2 B2.1 B2.2.1 B2.2.2.1 B2.2.2.2 B3.1 B3.2.1 B3.2.2.1 B3.2.2.2 B4.1 B4.2.1 B4.2.2.1 B4.2.2.2
theorem fast5 {t : List (List Int)} {z : Int} (hb : bndT t = true) (h : un5 (fun r1 r2 r3 r4 r5 => un5 (fun a b c d e => un5 (fun f g h i j => un5 (fun k l m n o => un5 (fun p q r s t => un5 (fun u v w x y => some (det5 a b c d e f g h i j k l m n o p q r s t u v w x y)) r5) r4) r3) r2) r1) t = some z) : detF 7 t = some z := by
  revert hb
  refine un5_ind (P := fun t => bndT t = true -> detF 7 t = some z) h fun r1 r2 r3 r4 r5 h hb => ?_
  have R := bnd5 hb
  clear hb
  have B1 := R.1
  have B2 := R.2.1
  have B3 := R.2.2.1
  have B4 := R.2.2.2.1
  have B5 := R.2.2.2.2
  clear R
  revert B1
  refine un5_ind h fun a b c d e h B1 => ?_
  replace B1 := row5 B1
  revert B2
  refine un5_ind h fun f g h i j h B2 => ?_
  replace B2 := row5 B2
  revert B3
  refine un5_ind h fun k l m n o h B3 => ?_
  replace B3 := row5 B3
  revert B4
  refine un5_ind h fun p q r s t h B4 => ?_
  replace B4 := row5 B4
  revert B5
  refine un5_ind h fun u v w x y h B5 => ?_
  replace B5 := row5 B5
  rw [<- Option.some.inj h]
  exact d5 B1.1 B1.2.1 B1.2.2.1 B1.2.2.2.1 B1.2.2.2.2 B2.1 B2.2.1 B2.2.2.1 B2.2.2.2.1 B2.2.2.2.2 B3.1 B3.2.1 B3.2.2.1 B3.2.2.2.1 B3.2.2.2.2 B4.1 B4.2.1 B4.2.2.1 B4.2.2.2.1 B4.2.2.2.2 B5.1 B5.2.1 B5.2.2.1 B5.2.2.2.1 B5.2.2.2.2
theorem fast1 {t : List (List Int)} {z : Int} (hb : bndT t = true) (h : un1 (un1 some) t = some z) : detF 7 t = some z := by
  revert hb
  refine un1_ind (P := fun t => bndT t = true -> detF 7 t = some z) h fun r1 h hb => ?_
  have B := bnd1 hb
  clear hb
  revert B
  refine un1_ind h fun a h B => ?_
  rw [<- Option.some.inj h]
  exact d1 (row1 B)
theorem fastD_ok {t : List (List Int)} {d : Int} (hb : bndT t = true) (h : fastD t = some d) : detF 7 t = some d := by
  unfold fastD at h
  by_cases n1 : t.length = 1
  . rw [if_pos n1] at h; exact fast1 hb h
  rw [if_neg n1] at h
  by_cases n2 : t.length = 2
  . rw [if_pos n2] at h; exact fast2 hb h
  rw [if_neg n2] at h
  by_cases n3 : t.length = 3
  . rw [if_pos n3] at h; exact fast3 hb h
  rw [if_neg n3] at h
  by_cases n4 : t.length = 4
  . rw [if_pos n4] at h; exact fast4 hb h
  rw [if_neg n4] at h; exact fast5 hb h
end

section
open PySem

noncomputable def P41 : List (List Int × List Int) := [([0], [0]), ([0], [1]), ([0], [2]), ([0], [3]), ([1], [1]), ([1], [2]), ([1], [3]), ([2], [2]), ([2], [3]), ([3], [3])]
theorem P41_eq : pairsN (setsN 4 1) = P41 := by decide +kernel
noncomputable def P42 : List (List Int × List Int) := [([0, 1], [0, 1]), ([0, 1], [0, 2]), ([0, 1], [1, 2]), ([0, 1], [0, 3]), ([0, 1], [1, 3]), ([0, 1], [2, 3]), ([0, 2], [0, 2]), ([0, 2], [1, 2]), ([0, 2], [0, 3]), ([0, 2], [1, 3]), ([0, 2], [2, 3]), ([1, 2], [1, 2]), ([1, 2], [1, 3]), ([1, 2], [2, 3]), ([0, 3], [1, 2]), ([0, 3], [0, 3]), ([0, 3], [1, 3]), ([0, 3], [2, 3]), ([1, 3], [1, 3]), ([1, 3], [2, 3]), ([2, 3], [2, 3])]
theorem P42_eq : pairsN (setsN 4 2) = P42 := by decide +kernel
noncomputable def P43 : List (List Int × List Int) := [([0, 1, 2], [0, 1, 2]), ([0, 1, 2], [0, 1, 3]), ([0, 1, 2], [0, 2, 3]), ([0, 1, 2], [1, 2, 3]), ([0, 1, 3], [0, 1, 3]), ([0, 1, 3], [0, 2, 3]), ([0, 1, 3], [1, 2, 3]), ([0, 2, 3], [0, 2, 3]), ([0, 2, 3], [1, 2, 3]), ([1, 2, 3], [1, 2, 3])]
theorem P43_eq : pairsN (setsN 4 3) = P43 := by decide +kernel
noncomputable def P44 : List (List Int × List Int) := [([0, 1, 2, 3], [0, 1, 2, 3])]
theorem P44_eq : pairsN (setsN 4 4) = P44 := by decide +kernel
noncomputable def P51 : List (List Int × List Int) := [([0], [0]), ([0], [1]), ([0], [2]), ([0], [3]), ([0], [4]), ([1], [1]), ([1], [2]), ([1], [3]), ([1], [4]), ([2], [2]), ([2], [3]), ([2], [4]), ([3], [3]), ([3], [4]), ([4], [4])]
theorem P51_eq : pairsN (setsN 5 1) = P51 := by decide +kernel
noncomputable def P52 : List (List Int × List Int) := [([0, 1], [0, 1]), ([0, 1], [0, 2]), ([0, 1], [1, 2]), ([0, 1], [0, 3]), ([0, 1], [1, 3]), ([0, 1], [2, 3]), ([0, 1], [0, 4]), ([0, 1], [1, 4]), ([0, 1], [2, 4]), ([0, 1], [3, 4]), ([0, 2], [0, 2]), ([0, 2], [1, 2]), ([0, 2], [0, 3]), ([0, 2], [1, 3]), ([0, 2], [2, 3]), ([0, 2], [0, 4]), ([0, 2], [1, 4]), ([0, 2], [2, 4]), ([0, 2], [3, 4]), ([1, 2], [1, 2]), ([1, 2], [1, 3]), ([1, 2], [2, 3]), ([1, 2], [1, 4]), ([1, 2], [2, 4]), ([1, 2], [3, 4]), ([0, 3], [1, 2]), ([0, 3], [0, 3]), ([0, 3], [1, 3]), ([0, 3], [2, 3]), ([0, 3], [0, 4]), ([0, 3], [1, 4]), ([0, 3], [2, 4]), ([0, 3], [3, 4]), ([1, 3], [1, 3]), ([1, 3], [2, 3]), ([1, 3], [1, 4]), ([1, 3], [2, 4]), ([1, 3], [3, 4]), ([2, 3], [2, 3]), ([2, 3], [2, 4]), ([2, 3], [3, 4]), ([0, 4], [1, 2]), ([0, 4], [1, 3]), ([0, 4], [2, 3]), ([0, 4], [0, 4]), ([0, 4], [1, 4]), ([0, 4], [2, 4]), ([0, 4], [3, 4]), ([1, 4], [2, 3]), ([1, 4], [1, 4]), ([1, 4], [2, 4]), ([1, 4], [3, 4]), ([2, 4], [2, 4]), ([2, 4], [3, 4]), ([3, 4], [3, 4])]
theorem P52_eq : pairsN (setsN 5 2) = P52 := by decide +kernel
noncomputable def P53 : List (List Int × List Int) := [([0, 1, 2], [0, 1, 2]), ([0, 1, 2], [0, 1, 3]), ([0, 1, 2], [0, 2, 3]), ([0, 1, 2], [1, 2, 3]), ([0, 1, 2], [0, 1, 4]), ([0, 1, 2], [0, 2, 4]), ([0, 1, 2], [1, 2, 4]), ([0, 1, 2], [0, 3, 4]), ([0, 1, 2], [1, 3, 4]), ([0, 1, 2], [2, 3, 4]), ([0, 1, 3], [0, 1, 3]), ([0, 1, 3], [0, 2, 3]), ([0, 1, 3], [1, 2, 3]), ([0, 1, 3], [0, 1, 4]), ([0, 1, 3], [0, 2, 4]), ([0, 1, 3], [1, 2, 4]), ([0, 1, 3], [0, 3, 4]), ([0, 1, 3], [1, 3, 4]), ([0, 1, 3], [2, 3, 4]), ([0, 2, 3], [0, 2, 3]), ([0, 2, 3], [1, 2, 3]), ([0, 2, 3], [0, 2, 4]), ([0, 2, 3], [1, 2, 4]), ([0, 2, 3], [0, 3, 4]), ([0, 2, 3], [1, 3, 4]), ([0, 2, 3], [2, 3, 4]), ([1, 2, 3], [1, 2, 3]), ([1, 2, 3], [1, 2, 4]), ([1, 2, 3], [1, 3, 4]), ([1, 2, 3], [2, 3, 4]), ([0, 1, 4], [0, 2, 3]), ([0, 1, 4], [1, 2, 3]), ([0, 1, 4], [0, 1, 4]), ([0, 1, 4], [0, 2, 4]), ([0, 1, 4], [1, 2, 4]), ([0, 1, 4], [0, 3, 4]), ([0, 1, 4], [1, 3, 4]), ([0, 1, 4], [2, 3, 4]), ([0, 2, 4], [1, 2, 3]), ([0, 2, 4], [0, 2, 4]), ([0, 2, 4], [1, 2, 4]), ([0, 2, 4], [0, 3, 4]), ([0, 2, 4], [1, 3, 4]), ([0, 2, 4], [2, 3, 4]), ([1, 2, 4], [1, 2, 4]), ([1, 2, 4], [1, 3, 4]), ([1, 2, 4], [2, 3, 4]), ([0, 3, 4], [1, 2, 3]), ([0, 3, 4], [1, 2, 4]), ([0, 3, 4], [0, 3, 4]), ([0, 3, 4], [1, 3, 4]), ([0, 3, 4], [2, 3, 4]), ([1, 3, 4], [1, 3, 4]), ([1, 3, 4], [2, 3, 4]), ([2, 3, 4], [2, 3, 4])]
theorem P53_eq : pairsN (setsN 5 3) = P53 := by decide +kernel
noncomputable def P54 : List (List Int × List Int) := [([0, 1, 2, 3], [0, 1, 2, 3]), ([0, 1, 2, 3], [0, 1, 2, 4]), ([0, 1, 2, 3], [0, 1, 3, 4]), ([0, 1, 2, 3], [0, 2, 3, 4]), ([0, 1, 2, 3], [1, 2, 3, 4]), ([0, 1, 2, 4], [0, 1, 2, 4]), ([0, 1, 2, 4], [0, 1, 3, 4]), ([0, 1, 2, 4], [0, 2, 3, 4]), ([0, 1, 2, 4], [1, 2, 3, 4]), ([0, 1, 3, 4], [0, 1, 3, 4]), ([0, 1, 3, 4], [0, 2, 3, 4]), ([0, 1, 3, 4], [1, 2, 3, 4]), ([0, 2, 3, 4], [0, 2, 3, 4]), ([0, 2, 3, 4], [1, 2, 3, 4]), ([1, 2, 3, 4], [1, 2, 3, 4])]
theorem P54_eq : pairsN (setsN 5 4) = P54 := by decide +kernel
noncomputable def P55 : List (List Int × List Int) := [([0, 1, 2, 3, 4], [0, 1, 2, 3, 4])]
theorem P55_eq : pairsN (setsN 5 5) = P55 := by decide +kernel

noncomputable def divSX (P : List (List Int × List Int)) (t : List (List Int)) (told : List Int) : Option (List Int) :=
  (P.mapM fun p => partO t p.1 p.2).bind fun parts => (parts.mapM fun p => if bndT p = true then fastD p else Option.none).bind fun ds => (commonF ds).bind fun g => if told.length < 20 then some (told ++ [g]) else Option.none
theorem mapM_imp {α β : Type} {f g : α -> Option β} (h : ∀ a b, f a = some b -> g a = some b) : ∀ {l : List α} {r : List β}, l.mapM f = some r -> l.mapM g = some r
  | [], r, e => e
  | a :: l, r, e => by
    simp only [List.mapM_cons, Option.bind_eq_bind, Option.pure_def] at e ⊢
    obtain ⟨b, hb, e⟩ := Option.bind_eq_some_iff.mp e
    obtain ⟨t, ht, e⟩ := Option.bind_eq_some_iff.mp e
    rw [h a b hb, Option.bind_some, mapM_imp h ht, Option.bind_some]
    exact e
theorem divSX_ok {P : List (List Int × List Int)} {t : List (List Int)} {told x : List Int} {c : Int} (hP : pairsN (setsN t.length c) = P) (h : divSX P t told = some x) : divStep t told c = some (.inl x) := by
  unfold divSX at h
  obtain ⟨parts, h1, h⟩ := Option.bind_eq_some_iff.mp h
  obtain ⟨ds, h2, h⟩ := Option.bind_eq_some_iff.mp h
  obtain ⟨g, h3, h⟩ := Option.bind_eq_some_iff.mp h
  split at h
  . rename_i hl
    cases h
    unfold divStep
    rw [hP, h1, Option.bind_some, mapM_imp (g := detF 7) (fun a b hab => by
      split at hab
      . rename_i hb; exact fastD_ok hb hab
      . cases hab) h2, Option.bind_some, h3, Option.bind_some, if_pos hl]
  . cases h
noncomputable def divX4 (t : List (List Int)) : Option (List Int) := if t.length = 4 then (divSX P41 t []).bind fun x1 => (divSX P42 t x1).bind fun x2 => (divSX P43 t x2).bind fun x3 => (divSX P44 t x3).bind fun x4 => some x4 else Option.none
theorem divX4_ok {t : List (List Int)} {l : List Int} (h : divX4 t = some l) : divF t = some l := by
  unfold divX4 at h
  split at h
  . rename_i hl
    obtain ⟨x1, h1, h⟩ := Option.bind_eq_some_iff.mp h
    have k1 := divSX_ok (c := 1) (by rw [hl]; exact P41_eq) h1
    obtain ⟨x2, h2, h⟩ := Option.bind_eq_some_iff.mp h
    have k2 := divSX_ok (c := 2) (by rw [hl]; exact P42_eq) h2
    obtain ⟨x3, h3, h⟩ := Option.bind_eq_some_iff.mp h
    have k3 := divSX_ok (c := 3) (by rw [hl]; exact P43_eq) h3
    obtain ⟨x4, h4, h⟩ := Option.bind_eq_some_iff.mp h
    have k4 := divSX_ok (c := 4) (by rw [hl]; exact P44_eq) h4
    cases h
    have e : (List.range t.length).map (fun (k : Nat) => 1 + (k : Int)) = [1, 2, 3, 4] := by rw [hl]; decide
    unfold divF
    rw [if_pos (by omega), e]
    rw [foldO_l k1, foldO_l k2, foldO_l k3, foldO_l k4]
    rfl
  . cases h
noncomputable def divX5 (t : List (List Int)) : Option (List Int) := if t.length = 5 then (divSX P51 t []).bind fun x1 => (divSX P52 t x1).bind fun x2 => (divSX P53 t x2).bind fun x3 => (divSX P54 t x3).bind fun x4 => (divSX P55 t x4).bind fun x5 => some x5 else Option.none
theorem divX5_ok {t : List (List Int)} {l : List Int} (h : divX5 t = some l) : divF t = some l := by
  unfold divX5 at h
  split at h
  . rename_i hl
    obtain ⟨x1, h1, h⟩ := Option.bind_eq_some_iff.mp h
    have k1 := divSX_ok (c := 1) (by rw [hl]; exact P51_eq) h1
    obtain ⟨x2, h2, h⟩ := Option.bind_eq_some_iff.mp h
    have k2 := divSX_ok (c := 2) (by rw [hl]; exact P52_eq) h2
    obtain ⟨x3, h3, h⟩ := Option.bind_eq_some_iff.mp h
    have k3 := divSX_ok (c := 3) (by rw [hl]; exact P53_eq) h3
    obtain ⟨x4, h4, h⟩ := Option.bind_eq_some_iff.mp h
    have k4 := divSX_ok (c := 4) (by rw [hl]; exact P54_eq) h4
    obtain ⟨x5, h5, h⟩ := Option.bind_eq_some_iff.mp h
    have k5 := divSX_ok (c := 5) (by rw [hl]; exact P55_eq) h5
    cases h
    have e : (List.range t.length).map (fun (k : Nat) => 1 + (k : Int)) = [1, 2, 3, 4, 5] := by rw [hl]; decide
    unfold divF
    rw [if_pos (by omega), e]
    rw [foldO_l k1, foldO_l k2, foldO_l k3, foldO_l k4, foldO_l k5]
    rfl
  . cases h

noncomputable def chkG (dv : List (List Int) -> Option (List Int)) (c : Nat) (Z : List Nat) (s : K17) : Bool :=
  match (abvF (zipW s.piles Z)).mapM fun a => wordB ((List.range c).map (nameB Z)) c fun k => a.contains (k : Int) with
  | Option.none => false
  | some ws => (tabF ws c == some (expF (abvF (zipW s.piles Z)) (szF (zipW s.piles Z) c) c)) && (match dv (expF (abvF (zipW s.piles Z)) (szF (zipW s.piles Z) c) c) with
    | Option.none => false
    | some d => dueF (lensF ((List.range c).map (nameB Z)) c) == some d) && (((List.range c).map (nameB Z)).flatten == alpha8.take ((zipW s.piles Z).map (·.2)).sum) && (zipW s.piles Z).all fun w => decide (w.2 <= 100)

theorem chkB_111 : allK 3 [1, 1, 1] (chkG divX4 3 [1, 1, 1]) 6 k0 = true := by decide +kernel
theorem chkB_112 : allK 3 [1, 1, 2] (chkG divX4 3 [1, 1, 2]) 6 k0 = true := by decide +kernel
theorem chkB_121 : allK 3 [1, 2, 1] (chkG divX4 3 [1, 2, 1]) 6 k0 = true := by decide +kernel
theorem chkB_122 : allK 3 [1, 2, 2] (chkG divX4 3 [1, 2, 2]) 6 k0 = true := by decide +kernel
theorem chkB_211 : allK 3 [2, 1, 1] (chkG divX4 3 [2, 1, 1]) 6 k0 = true := by decide +kernel
theorem chkB_212 : allK 3 [2, 1, 2] (chkG divX4 3 [2, 1, 2]) 6 k0 = true := by decide +kernel
theorem chkB_221 : allK 3 [2, 2, 1] (chkG divX4 3 [2, 2, 1]) 6 k0 = true := by decide +kernel
theorem chkB_222 : allK 3 [2, 2, 2] (chkG divX4 3 [2, 2, 2]) 6 k0 = true := by decide +kernel
theorem chkB_1111 : allK 4 [1, 1, 1, 1] (chkG divX5 4 [1, 1, 1, 1]) 8 k0 = true := by decide +kernel
theorem chkB_1112 : allK 4 [1, 1, 1, 2] (chkG divX5 4 [1, 1, 1, 2]) 8 k0 = true := by decide +kernel
theorem chkB_1121 : allK 4 [1, 1, 2, 1] (chkG divX5 4 [1, 1, 2, 1]) 8 k0 = true := by decide +kernel
theorem chkB_1122 : allK 4 [1, 1, 2, 2] (chkG divX5 4 [1, 1, 2, 2]) 8 k0 = true := by decide +kernel
theorem chkB_1211 : allK 4 [1, 2, 1, 1] (chkG divX5 4 [1, 2, 1, 1]) 8 k0 = true := by decide +kernel
theorem chkB_1212 : allK 4 [1, 2, 1, 2] (chkG divX5 4 [1, 2, 1, 2]) 8 k0 = true := by decide +kernel
theorem chkB_1221 : allK 4 [1, 2, 2, 1] (chkG divX5 4 [1, 2, 2, 1]) 8 k0 = true := by decide +kernel
theorem chkB_1222 : allK 4 [1, 2, 2, 2] (chkG divX5 4 [1, 2, 2, 2]) 8 k0 = true := by decide +kernel
theorem chkB_2111 : allK 4 [2, 1, 1, 1] (chkG divX5 4 [2, 1, 1, 1]) 8 k0 = true := by decide +kernel
theorem chkB_2112 : allK 4 [2, 1, 1, 2] (chkG divX5 4 [2, 1, 1, 2]) 8 k0 = true := by decide +kernel
theorem chkB_2121 : allK 4 [2, 1, 2, 1] (chkG divX5 4 [2, 1, 2, 1]) 8 k0 = true := by decide +kernel
theorem chkB_2122 : allK 4 [2, 1, 2, 2] (chkG divX5 4 [2, 1, 2, 2]) 8 k0 = true := by decide +kernel
theorem chkB_2211 : allK 4 [2, 2, 1, 1] (chkG divX5 4 [2, 2, 1, 1]) 8 k0 = true := by decide +kernel
theorem chkB_2212 : allK 4 [2, 2, 1, 2] (chkG divX5 4 [2, 2, 1, 2]) 8 k0 = true := by decide +kernel
theorem chkB_2221 : allK 4 [2, 2, 2, 1] (chkG divX5 4 [2, 2, 2, 1]) 8 k0 = true := by decide +kernel
theorem chkB_2222 : allK 4 [2, 2, 2, 2] (chkG divX5 4 [2, 2, 2, 2]) 8 k0 = true := by decide +kernel
theorem B3_ok {a b c : Nat} (ha : a = 1 \/ a = 2) (hb : b = 1 \/ b = 2) (hc : c = 1 \/ c = 2) : allK 3 [a, b, c] (chkG divX4 3 [a, b, c]) 6 k0 = true := by
  rcases ha with h | h <;> subst h
  all_goals rcases hb with h | h <;> subst h
  all_goals rcases hc with h | h <;> subst h
  all_goals simp only [chkB_111, chkB_112, chkB_121, chkB_122, chkB_211, chkB_212, chkB_221, chkB_222]
theorem B4_ok {a b c d : Nat} (ha : a = 1 \/ a = 2) (hb : b = 1 \/ b = 2) (hc : c = 1 \/ c = 2) (hd : d = 1 \/ d = 2) : allK 4 [a, b, c, d] (chkG divX5 4 [a, b, c, d]) 8 k0 = true := by
  rcases ha with h | h <;> subst h
  all_goals rcases hb with h | h <;> subst h
  all_goals rcases hc with h | h <;> subst h
  all_goals rcases hd with h | h <;> subst h
  all_goals simp only [chkB_1111, chkB_1112, chkB_1121, chkB_1122, chkB_1211, chkB_1212, chkB_1221, chkB_1222, chkB_2111, chkB_2112, chkB_2121, chkB_2122, chkB_2211, chkB_2212, chkB_2221, chkB_2222]
end

section
open PySem

noncomputable def szL (N : List Int) (c : Nat) : List Nat := (List.range c).map fun i => sizeF (N.getD i 0)
noncomputable def chF (N : List Int) (c i : Nat) : List Nat := hidF (N.getD i 0) ++ typF (N.getD i 0) (lt (szL N c) i)
noncomputable def lnL (N : List Int) (c : Nat) : List Nat := (List.range c).map fun i => (chF N c i).length
noncomputable def rho (N : List Int) (c x : Nat) : Nat := if x < 100 then x else if (x - 100) / 3 < 4 then (chF N c ((x - 100) / 3)).getD ((x - 100) % 3) 0 else 0
noncomputable def relK (N : List Int) (c : Nat) (s : K17) : T17 := ⟨s.text.map (rho N c), s.pile, zipW s.piles (szL N c), s.opened, lt (szL N c) s.opened⟩

theorem size_le (y : Int) : sizeF y = 1 \/ sizeF y = 2 := by unfold sizeF; split <;> simp
theorem hid_le (y : Int) : (hidF y).length <= 1 := by unfold hidF; split <;> simp
theorem typ_len (y : Int) (l : Nat) : (typF y l).length = sizeF y := by simp [typF]
theorem ch_len {N : List Int} {c i : Nat} : 1 <= (chF N c i).length /\ (chF N c i).length <= 3 := by
  have h1 := size_le (N.getD i 0)
  have h2 := hid_le (N.getD i 0)
  simp only [chF, List.length_append, typ_len]
  rcases h1 with h1 | h1 <;> rw [h1] <;> exact ⟨Nat.le_trans (by decide) (Nat.le_add_left _ _), Nat.le_trans (Nat.add_le_add_right h2 _) (by decide)⟩
theorem range_getD {α : Type} {f : Nat -> α} {c i : Nat} {d : α} (h : i < c) : ((List.range c).map f).getD i d = f i := by simp [h]
theorem sz_getD {N : List Int} {c i : Nat} (h : i < c) : (szL N c).getD i 1 = sizeF (N.getD i 0) := range_getD h
theorem ln_getD {N : List Int} {c i : Nat} (h : i < c) : (lnL N c).getD i 1 = (chF N c i).length := range_getD h
theorem rho_lt {N : List Int} {c x : Nat} (h : x < 100) : rho N c x = x := if_pos h
theorem chunk_map {N : List Int} {c i : Nat} (hi : i < 4) : (chunkK i (chF N c i).length).map (rho N c) = chF N c i := by
  have hl := (ch_len (N := N) (c := c) (i := i)).2
  apply List.ext_getElem
  . simp [chunkK]
  . intro j h1 h2
    have hj : j < 3 := Nat.lt_of_lt_of_le h2 hl
    have e1 : (100 + 3 * i + j - 100) / 3 = i := by rw [Nat.add_assoc, Nat.add_sub_cancel_left, Nat.mul_add_div (by decide), Nat.div_eq_of_lt hj]; rfl
    have e2 : (100 + 3 * i + j - 100) % 3 = j := by rw [Nat.add_assoc, Nat.add_sub_cancel_left, Nat.mul_add_mod, Nat.mod_eq_of_lt hj]
    simp only [chunkK, List.getElem_map, List.getElem_range, rho]
    rw [if_neg (Nat.not_lt.mpr (by rw [Nat.add_assoc]; exact Nat.le_add_right _ _)), e1, e2, if_pos hi]
    simp [h2]
theorem zipW_app {piles : List (List Int)} {Z : List Nat} {p : List Int} : zipW (piles ++ [p]) Z = zipW piles Z ++ [(p, Z.getD piles.length 1)] := by
  simp [zipW, List.zipIdx_append]
theorem lt_succ {Z : List Nat} {i : Nat} : lt Z (i + 1) = lt Z i + Z.getD i 1 := by
  simp [lt, List.range_succ]
theorem sz_le2 {N : List Int} {c i : Nat} : (szL N c).getD i 1 <= 2 := by
  by_cases h : i < c
  . rw [sz_getD h]; rcases size_le (N.getD i 0) with h | h <;> rw [h] <;> decide
  . simp [szL, List.getD_eq_getElem?_getD, show ¬ i < c from h]
theorem lt_le {N : List Int} {c : Nat} : ∀ i, lt (szL N c) i <= 2 * i
  | 0 => by simp [lt]
  | i + 1 => by rw [lt_succ]; exact Nat.add_le_add (lt_le i) sz_le2
structure InvK (c n : Nat) (s : K17) : Prop where
  t : s.text.length <= 4 * n
  p : s.pile.length <= n
  q : s.piles.length = s.opened
  o : s.opened <= n
  c : s.opened <= c
theorem ln_le {N : List Int} {c i : Nat} : (lnL N c).getD i 1 <= 3 := by
  by_cases h : i < c
  . rw [ln_getD h]; exact ch_len.2
  . simp [lnL, List.getD_eq_getElem?_getD, show ¬ i < c from h]
theorem inv_step {N : List Int} {c n : Nat} {s : K17} {b : Bool} (h : InvK c n s) : InvK c (n + 1) (stepK c (lnL N c) s b) := by
  obtain ⟨h1, h2, h3, h4, h5⟩ := h
  have h6 := ln_le (N := N) (c := c) (i := s.opened)
  unfold stepK
  split
  . rename_i hh
    simp only [Bool.and_eq_true, decide_eq_true_eq] at hh
    have := hh.1
    refine ⟨?_, ?_, ?_, ?_, ?_⟩ <;> simp only [openK, chunkK, List.length_append, List.length_map, List.length_range, List.length_cons, List.length_nil]
    . lia
    . exact Nat.succ_le_succ h2
    . exact congrArg (· + 1) h3
    . exact Nat.succ_le_succ h4
    . exact this
  . refine ⟨?_, ?_, ?_, ?_, ?_⟩ <;> simp only [closeK, List.length_append, List.length_dropLast, List.length_cons, List.length_nil]
    . exact Nat.add_le_add h1 (by decide)
    . exact Nat.le_trans (Nat.sub_le _ _) (Nat.le_succ_of_le h2)
    . exact h3
    . exact Nat.le_succ_of_le h4
    . exact h5
theorem text_step1 {N : List Int} {c n : Nat} {s : K17} {x : Int} (hc : c <= 4) (hN : N.length = 2 * c) (hn : n <= 8) (h : InvK c n s) : textStep N (relK N c s) x = some (.inl (relK N c (stepK c (lnL N c) s (x.fmod 2 == 1)))) := by
  obtain ⟨h1, h2, h3, h4, h5⟩ := h
  have hlt := lt_le (N := N) (c := c) s.opened
  have ok : okT17 N.length (relK N c s) = true := by
    simp only [okT17, relK, Bool.and_eq_true, decide_eq_true_eq, List.length_map, zipW, List.length_zipIdx]
    exact ⟨⟨⟨⟨⟨by lia, by lia⟩, decide_eq_true (Nat.le_trans h2 (Nat.le_trans hn (by decide)))⟩, by lia⟩, decide_eq_true (Nat.le_trans h5 (Nat.le_trans hc (by decide)))⟩, decide_eq_true (Nat.le_trans hlt (Nat.le_trans (Nat.mul_le_mul_left 2 (Nat.le_trans h5 hc)) (by decide)))⟩
  have e1 : decide ((s.opened : Int) < (N.length : Int).fdiv 2) = decide (s.opened < c) := by
    have : (N.length : Int).fdiv 2 = (c : Int) := by rw [hN]; exact Int.mul_fdiv_cancel_left (c : Int) (a := 2) (by decide)
    rw [this, decide_eq_decide]; exact Int.ofNat_lt
  unfold textStep
  rw [if_pos ok]
  have e2 : (relK N c s).opened = s.opened := rfl
  have e3 : (relK N c s).pile = s.pile := rfl
  rw [e2, e3, e1]
  unfold stepK
  split
  . rename_i hh
    simp only [Bool.and_eq_true, decide_eq_true_eq] at hh
    have ho := hh.1
    have e4 : N[s.opened]? = some (N.getD s.opened 0) := by simp [show s.opened < N.length by rw [hN]; exact Nat.lt_of_lt_of_le ho (Nat.le_mul_of_pos_left c (by decide))]
    rw [e4]
    simp only [relK, openK, List.map_append, zipW_app, lt_succ, h3, sz_getD ho, ln_getD ho, chunk_map (Nat.lt_of_lt_of_le ho hc)]
    have e5 : [40].map (rho N c) = [40] := by simp [rho]
    rw [e5]
    simp only [chF, List.append_assoc]
  . simp only [relK, closeK, List.map_append]
    have e5 : [41].map (rho N c) = [41] := by simp [rho]
    rw [e5]
theorem text_run {N : List Int} {c : Nat} (hc : c <= 4) (hN : N.length = 2 * c) : ∀ (xs : List Int) (n : Nat) (s : K17), n + xs.length <= 8 -> InvK c n s ->
    foldO (textStep N) (relK N c s) xs = some (.inl (relK N c (runK c (lnL N c) s (xs.map fun x => x.fmod 2 == 1))))
  | [], n, s, _, _ => rfl
  | x :: xs, n, s, hn, h => by
    simp only [List.length_cons] at hn
    rw [foldO_l (text_step1 hc hN (Nat.le_trans (Nat.le_add_right _ _) hn) h)]
    simp only [List.map_cons, runK_c]
    exact text_run hc hN xs (n + 1) _ (by rw [Nat.add_right_comm]; exact hn) (inv_step h)
noncomputable def finK (N : List Int) (c : Nat) : K17 := runK c (lnL N c) k0 (N.map fun x => x.fmod 2 == 1)
theorem text_fin {N : List Int} {c : Nat} (hc : c <= 4) (hN : N.length = 2 * c) : textF N = some (relK N c (finK N c)) := by
  unfold textF
  have e : (⟨[], [], [], 0, 0⟩ : T17) = relK N c k0 := rfl
  rw [e, text_run hc hN N 0 k0 (by rw [Nat.zero_add, hN]; exact Nat.mul_le_mul_left 2 hc) ⟨by decide, by decide, rfl, by decide, by simp [k0]⟩]
  rfl
end

section
open PySem

noncomputable def badC (x : Nat) : Bool := x == 34 || x == 40 || x == 41 || x == 92
noncomputable def goodC (x : Nat) : Bool := x == 40 || x == 41 || decide (100 <= x)
theorem uns_ok : unseenN.all (fun x => !badC x) = true := by decide
theorem hid_mem {y : Int} {x : Nat} (h : x ∈ hidF y) : x ∈ unseenN := by
  unfold hidF at h
  split at h
  . rw [List.mem_singleton] at h
    have h1 := fmod_pos (y.fdiv 24) 27 (by decide)
    have h2 : unseenN.length = 27 := by decide
    have h3 : ((y.fdiv 24).fmod 27).toNat < unseenN.length := by rw [h2]; exact (tn (n := 27) h1).1
    rw [h, List.getD_eq_getElem?_getD, List.getElem?_eq_getElem h3, Option.getD_some]
    exact List.getElem_mem h3
  . cases h
theorem base_mem (m : Int) : baseF m = 97 \/ baseF m = 65 \/ baseF m = 119808 := by
  have h := fmod_pos m 3 (by decide)
  unfold baseF
  have := fm3 m
  rcases this with h | h | h <;> rw [h] <;> decide
theorem typ_mem {y : Int} {l x : Nat} (h : x ∈ typF y l) : ∃ m k, k < 2 /\ x = baseF m + l + k := by
  refine cps fun U J => ?_
  obtain ⟨k, hk, rfl⟩ := List.mem_map.mp h
  refine J ?_; clear J U
  have := List.mem_range.mp hk
  have h2 := size_le y
  exact ⟨_, k, by lia, rfl⟩
theorem ch_bad {N : List Int} {c i x : Nat} (hi : i < 4) (h : x ∈ chF N c i) : badC x = false := by
  unfold chF at h
  rcases List.mem_append.mp h with h | h
  . have := List.all_eq_true.mp uns_ok x (hid_mem h)
    simpa -iota using this
  . refine cps fun U J => ?_
    obtain ⟨m, k, hk, rfl⟩ := typ_mem h
    refine J ?_; clear J U
    have h1 := lt_le (N := N) (c := c) i
    have h2 := base_mem m
    have hl : lt (szL N c) i <= 6 := Nat.le_trans h1 (Nat.mul_le_mul_left 2 (Nat.le_of_lt_succ hi))
    have bh : ∀ {x}, 97 <= x -> badC x = false := fun h => by
      simp -iota only [badC, Bool.or_eq_false_iff, beq_eq_false_iff_ne]
      exact ⟨⟨⟨Nat.ne_of_gt (Nat.lt_of_lt_of_le (by decide) h), Nat.ne_of_gt (Nat.lt_of_lt_of_le (by decide) h)⟩, Nat.ne_of_gt (Nat.lt_of_lt_of_le (by decide) h)⟩, Nat.ne_of_gt (Nat.lt_of_lt_of_le (by decide) h)⟩
    have up : ∀ b l k : Nat, b <= b + l + k := fun b l k => Nat.le_trans (Nat.le_add_right b l) (Nat.le_add_right _ k)
    rcases h2 with h2 | h2 | h2 <;> rw [h2]
    . exact bh (up _ _ _)
    . generalize lt (szL N c) i = l at hl
      simp -iota only [badC, Bool.or_eq_false_iff, beq_eq_false_iff_ne]
      have a := Nat.lt_of_lt_of_le (show 41 < 65 by decide) (up 65 l k)
      exact ⟨⟨⟨Nat.ne_of_gt (Nat.lt_trans (by decide) a), Nat.ne_of_gt (Nat.lt_trans (by decide) a)⟩, Nat.ne_of_gt a⟩, Nat.ne_of_lt (Nat.lt_of_le_of_lt (Nat.add_le_add (Nat.add_le_add_left hl 65) (Nat.le_of_lt_succ hk)) (by decide))⟩
    . exact bh (Nat.le_trans (by decide) (up _ _ _))
theorem rho_bad {N : List Int} {c x : Nat} (h : 100 <= x) : badC (rho N c x) = false := by
  unfold rho
  rw [if_neg (Nat.not_lt.mpr h)]
  split
  . rename_i hi
    rw [List.getD_eq_getElem?_getD]
    cases hq : (chF N c ((x - 100) / 3))[(x - 100) % 3]? with
    | none => rfl
    | some v => exact ch_bad hi (List.mem_of_getElem? hq)
  . rfl
theorem rho_40 {N : List Int} {c x : Nat} (h : goodC x = true) : (rho N c x == 40) = (x == 40) /\ (rho N c x == 41) = (x == 41) /\ rho N c x ≠ 92 /\ rho N c x ≠ 34 := by
  by_cases h1 : x < 100
  . rw [rho_lt h1]
    refine ⟨rfl, rfl, ?_, ?_⟩ <;> (simp -iota only [goodC, Bool.or_eq_true, beq_iff_eq, decide_eq_true_eq] at h; lia)
  . have hx := Nat.le_of_not_lt h1
    have := rho_bad (N := N) (c := c) hx
    simp -iota only [badC, Bool.or_eq_false_iff, beq_eq_false_iff_ne] at this
    have e1 : (x == 40) = false := beq_eq_false_iff_ne.mpr (Nat.ne_of_gt (Nat.lt_of_lt_of_le (by decide) hx))
    have e2 : (x == 41) = false := beq_eq_false_iff_ne.mpr (Nat.ne_of_gt (Nat.lt_of_lt_of_le (by decide) hx))
    rw [e1, e2]
    exact ⟨beq_eq_false_iff_ne.mpr this.1.1.2, beq_eq_false_iff_ne.mpr this.1.2, this.2, this.1.1.1⟩
section
variable {N : List Int} {c : Nat}
theorem pstep_rho {n : Int} {x : Nat} (h : goodC x = true) : pstep n (rho N c x) = pstep n x := by
  refine cps fun U J => ?_
  obtain ⟨h1, h2, _, _⟩ := rho_40 (N := N) (c := c) h
  refine J ?_; clear J U
  unfold pstep
  have e1 : (rho N c x = 40) = (x = 40) := by
    have := congrArg (· = true) h1
    simpa -iota using this
  have e2 : (rho N c x = 41) = (x = 41) := by
    have := congrArg (· = true) h2
    simpa -iota using this
  simp -iota only [e1, e2]
theorem pgo_rho : ∀ (l : List Nat) (n : Int), (∀ x ∈ l, goodC x = true) -> pgo n (l.map (rho N c)) = pgo n l
  | [], n, _ => rfl
  | x :: l, n, h => by
    simp -iota only [List.map_cons, pgo, pstep_rho (h x List.mem_cons_self)]
    cases pstep n x with
    | none => rfl
    | some m => exact pgo_rho l m fun y hy => h y (List.mem_cons_of_mem _ hy)
variable {T : List Nat} (hT : ∀ x ∈ T, goodC x = true)
theorem map_getD {k : Nat} (h : k < T.length) : (T.map (rho N c)).getD k 0 = rho N c (T.getD k 0) := by simp -iota [h]
include hT
theorem good_getD {k : Nat} (h : k < T.length) : goodC (T.getD k 0) = true := by
  apply hT
  simp -iota [List.getD_eq_getElem?_getD, h]
theorem opens_rho (place : Nat) : opensAt (T.map (rho N c)) place = opensAt T place := by
  unfold opensAt
  rw [List.length_map]
  apply List.filter_congr
  intro i hi
  have := List.mem_range.mp hi
  have hk : place + 1 + i < T.length := Nat.add_lt_of_lt_sub' (by assumption)
  refine cps fun U J => ?_
  obtain ⟨h1, h2, _, _⟩ := rho_40 (N := N) (c := c) (good_getD hT hk)
  refine J ?_; clear J U
  rw [map_getD hk]
  unfold isP
  rw [h1, h2]
theorem strs_rho (place stop : Nat) : strsAt (T.map (rho N c)) place stop = (strsAt T place stop).map (List.map (rho N c)) := by
  unfold strsAt
  rw [List.length_map, List.map_map]
  have e : (List.range (T.length - stop)).filter (fun i => (T.map (rho N c)).getD (stop + i) 0 == 41) = (List.range (T.length - stop)).filter (fun i => T.getD (stop + i) 0 == 41) := by
    apply List.filter_congr
    intro i hi
    have := List.mem_range.mp hi
    have hk : stop + i < T.length := Nat.add_lt_of_lt_sub' (by assumption)
    rw [map_getD hk, (rho_40 (good_getD hT hk)).2.1]
  rw [e]
  apply List.map_congr_left
  intro i _
  simp -iota [List.map_take, List.map_drop]
theorem taken_rho (place stop : Nat) : takenAt (T.map (rho N c)) place stop = (takenAt T place stop).map (List.map (rho N c)) := by
  unfold takenAt
  rw [strs_rho hT, List.filter_map]
  congr 1
  apply List.filter_congr
  intro s hs
  refine cps fun U J => ?_
  obtain ⟨i, _, rfl⟩ := List.mem_map.mp hs
  refine J ?_; clear J U
  exact pgo_rho _ _ fun x hx => hT x (List.mem_of_mem_drop (List.mem_of_mem_take hx))
theorem okL_rho (hl : T.length <= 100) : okL (T.map (rho N c)) = true := by
  unfold okL
  simp -iota only [Bool.and_eq_true, decide_eq_true_eq, List.all_eq_true, List.length_map]
  refine ⟨hl, fun x hx => ?_⟩
  refine cps fun U J => ?_
  obtain ⟨y, hy, rfl⟩ := List.mem_map.mp hx
  obtain ⟨_, _, h3, h4⟩ := rho_40 (N := N) (c := c) (hT y hy)
  refine J ?_; clear J U
  simp -iota [h3, h4]
end
noncomputable def named (N : List Int) (c : Nat) (q : PR) : PR := ⟨q.place, q.stop, (prepF (q.name.map (rho N c))).getD [], q.taken⟩
theorem read_fold {N : List Int} {c : Nat} {T : List Nat} (hT : ∀ x ∈ T, goodC x = true) (hl : T.length <= 100) : ∀ (l : List Nat) (acc qs : List PR), (∀ p ∈ l, p < T.length) -> acc.length + l.length <= 100 -> (l.filter fun p => T.getD p 0 == 40).mapM (rowK T) = some qs -> (∀ q ∈ qs, (prepF (q.name.map (rho N c))).isSome = true) ->
    foldO (readStep (T.map (rho N c))) acc l = some (.inl (acc ++ qs.map (named N c)))
  | [], acc, qs, _, _, h, _ => by
    simp -iota at h
    subst h; simp [foldO_n]
  | place :: l, acc, qs, h1, h2, h, h4 => by
    have hp := h1 place List.mem_cons_self
    simp -iota only [List.length_cons] at h2
    have hg := good_getD hT hp
    refine cps fun U J => ?_
    obtain ⟨g1, _, _, _⟩ := rho_40 (N := N) (c := c) hg
    refine J ?_; clear J U
    have ec : (T.map (rho N c))[place]? = some (rho N c (T.getD place 0)) := by simp -iota [hp]
    have ok := okL_rho (N := N) (c := c) hT hl
    rw [foldO_r rfl]
    unfold readStep
    simp only [ec]
    rw [if_pos ⟨ok, by lia⟩, g1]
    rw [List.filter_cons] at h
    cases hcc : (T.getD place 0 == 40) with
    | false =>
      rw [hcc, if_neg (by decide)] at h
      rw [if_neg (by decide)]
      simp only
      exact read_fold hT hl l acc qs (fun p hp => h1 p (List.mem_cons_of_mem _ hp)) (by lia) h h4
    | true =>
      rw [hcc, if_pos rfl] at h
      rw [if_pos rfl]
      simp -iota only [List.mapM_cons, Option.bind_eq_bind, Option.pure_def] at h
      refine cps fun U J => ?_
      obtain ⟨q, hq, h⟩ := Option.bind_eq_some_iff.mp h
      obtain ⟨qs', hqs, h⟩ := Option.bind_eq_some_iff.mp h
      refine J ?_; clear J U
      cases h
      unfold rowK at hq
      rw [opens_rho hT]
      cases ho : opensAt T place with
      | nil => rw [ho] at hq; cases hq
      | cons i0 rest =>
        rw [ho] at hq
        simp only [Option.some.injEq] at hq
        have hs := h4 q List.mem_cons_self
        obtain ⟨nm, hnm⟩ := Option.isSome_iff_exists.mp hs
        have e1 : ((T.map (rho N c)).drop (place + 1)).take i0 = q.name.map (rho N c) := by rw [<- hq]; simp -iota [List.map_take, List.map_drop]
        simp only
        rw [e1, hnm, Option.map_some]
        simp only
        have e2 : (⟨place, (place : Int) + (((takenAt (T.map (rho N c)) place (place + 1 + i0)).headD []).length : Nat), nm, ((takenAt (T.map (rho N c)) place (place + 1 + i0)).length : Nat)⟩ : PR) = named N c q := by
          unfold named
          rw [hnm, <- hq, taken_rho hT, List.length_map]
          cases takenAt T place (place + 1 + i0) <;> simp -iota
        rw [e2]
        exact (read_fold hT hl l (acc ++ [named N c q]) qs' (fun p hp => h1 p (List.mem_cons_of_mem _ hp)) (by simp -iota only [List.length_append, List.length_cons, List.length_nil]; lia) hqs fun q hq => h4 q (List.mem_cons_of_mem _ hq)).trans (by simp -iota)
theorem read_rho {N : List Int} {c : Nat} {T : List Nat} {qs : List PR} (hT : ∀ x ∈ T, goodC x = true) (hl : T.length <= 100) (h : readK T = some qs) (h4 : ∀ q ∈ qs, (prepF (q.name.map (rho N c))).isSome = true) : readF (T.map (rho N c)) = some (qs.map (named N c)) := by
  unfold readF
  rw [List.length_map, if_pos hl, read_fold hT hl (List.range T.length) [] qs (fun p hp => List.mem_range.mp hp) (by simp -iota only [List.length_range, List.length_nil]; lia) h h4]
  rfl
end

section
open PySem

theorem prepC_uns : unseenN.all (fun x => prepC x == some []) = true := by decide
theorem prepC_let {m : Int} {j : Nat} (hj : j <= 7) : prepC (baseF m + j) = some [97 + j] := by
  have q : ∀ j, j < 8 -> prepC (97 + j) = some [97 + j] /\ prepC (65 + j) = some [97 + j] /\ prepC (119808 + j) = some [97 + j] := by decide
  have q := q j (Nat.lt_succ_of_le hj)
  rcases base_mem m with h | h | h <;> rw [h]
  . exact q.1
  . exact q.2.1
  . exact q.2.2
theorem prep_cons {acc l y : List Nat} {x : Nat} (h : prepC x = some y) (ha : acc.length <= 1000) : foldO prepStep acc (x :: l) = foldO prepStep (acc ++ y) l := by
  exact foldO_l (by unfold prepStep; rw [if_pos ha, h]; rfl)
theorem prep_typ {y : Int} {letter : Nat} (h : letter <= 6) : foldO prepStep [] (typF y letter) = some (.inl ((List.range (sizeF y)).map fun k => 97 + letter + k)) := by
  unfold typF
  have q : ∀ m k, k <= 1 -> prepC (baseF m + letter + k) = some [97 + letter + k] := fun m k hk => by
    have := prepC_let (m := m) (j := letter + k) (Nat.add_le_add h hk)
    rw [<- Nat.add_assoc, <- Nat.add_assoc] at this
    exact this
  rcases size_le y with hs | hs <;> rw [hs]
  . have e : List.range 1 = [0] := rfl
    rw [e, List.map_cons, List.map_nil, prep_cons (q _ 0 (by decide)) (by decide)]
    rfl
  . have e : List.range 2 = [0, 1] := rfl
    rw [e, List.map_cons, List.map_cons, List.map_nil, prep_cons (q _ 0 (by decide)) (by decide), prep_cons (q _ 1 (by decide)) (by simp)]
    rfl
theorem prep_ch {N : List Int} {c i : Nat} (hi : i < c) (hc : c <= 4) : prepF (chF N c i) = some (nameB (szL N c) i) := by
  have hl := lt_le (N := N) (c := c) i
  have ht := prep_typ (y := N.getD i 0) (letter := lt (szL N c) i) (Nat.le_trans hl (Nat.mul_le_mul_left 2 (Nat.le_of_lt_succ (Nat.lt_of_lt_of_le hi hc))))
  unfold prepF chF nameB
  rw [sz_getD hi]
  cases hh : hidF (N.getD i 0) with
  | nil => rw [List.nil_append, ht]
  | cons x l =>
    have h1 := hid_le (N.getD i 0)
    rw [hh] at h1
    have h2 : l = [] := by cases l with
      | nil => rfl
      | cons a b => simp at h1
    subst h2
    have h3 : x ∈ unseenN := hid_mem (y := N.getD i 0) (by rw [hh]; exact List.mem_cons_self)
    have h4 := List.all_eq_true.mp prepC_uns x h3
    rw [List.cons_append, List.nil_append, prep_cons (by simpa using h4) (by decide), List.append_nil, ht]
theorem foldO_congr {σ α : Type} {f g : σ -> α -> Option (Sum σ PV)} : ∀ (l : List α) (s : σ), (∀ s a, a ∈ l -> f s a = g s a) -> foldO f s l = foldO g s l
  | [], s, _ => rfl
  | a :: l, s, h => by
    have e := h s a List.mem_cons_self
    cases q : g s a with
    | none => rw [foldO_r (e.trans q), foldO_r q]
    | some y =>
      rw [foldO_r (e.trans q), foldO_r q]
      cases y with
      | inl s' => exact foldO_congr l _ fun s b hb => h s b (List.mem_cons_of_mem _ hb)
      | inr p => rfl
theorem word_B {ps : List PR} {names : List (List Nat)} {c : Nat} {room : Int} {ins : Nat -> Bool} (hc : c <= 10) (hl : ps.length = c) (hn : ps.map (·.name) = names) (hi : ∀ k p, ps[k]? = some p -> (decide (p.place <= room) && decide (room < p.stop)) = ins k) : wordF ps room = wordB names c ins := by
  unfold wordF wordB
  rw [hl, if_pos hc]
  have e0 : foldO (wordStep ps room) [] (List.range c) = foldO (wordBs names ins) [] (List.range c) := by
    refine foldO_congr _ _ fun w k hk => ?_
    have hk' := List.mem_range.mp hk
    unfold wordStep wordBs
    have e : names[k]? = (ps[k]?).map (·.name) := by rw [<- hn, List.getElem?_map]
    cases hp : ps[k]? with
    | none => rw [e, hp]; rfl
    | some p =>
      rw [e, hp]
      simp only [Option.map_some]
      rw [hi k p hp]
  rw [e0] <;> rfl
theorem mapM_two {α β U : Type} {f : α -> Option U} {g : β -> Option U} : ∀ (l : List α) (l' : List β), l.length = l'.length -> (∀ (j : Nat) a b, l[j]? = some a -> l'[j]? = some b -> f a = g b) -> l.mapM f = l'.mapM g
  | [], [], _, _ => rfl
  | a :: l, b :: l', h, q => by
    simp only [List.mapM_cons]
    rw [q 0 a b rfl rfl, mapM_two l l' (by simpa using h) fun j a b h1 h2 => q (j + 1) a b (by simpa using h1) (by simpa using h2)]
  | [], b :: l', h, _ => by cases h
  | a :: l, [], h, _ => by cases h

theorem run_piles {c : Nat} {L L' : List Nat} : ∀ (bs : List Bool) (s s' : K17), s.pile = s'.pile -> s.piles = s'.piles -> s.opened = s'.opened -> (runK c L s bs).piles = (runK c L' s' bs).piles
  | [], s, s', _, h, _ => h
  | b :: bs, s, s', h1, h2, h3 => by
    simp only [runK_c]
    refine run_piles bs _ _ ?_ ?_ ?_ <;> unfold stepK <;> rw [h1, h3] <;> split <;> simp only [openK, closeK, h1, h2, h3]
theorem chkG_congr {dv : List (List Int) -> Option (List Int)} {c : Nat} {Z : List Nat} {s s' : K17} (h : s.piles = s'.piles) : chkG dv c Z s = chkG dv c Z s' := by
  unfold chkG; rw [h]
theorem zipW_fst {piles : List (List Int)} {Z : List Nat} : (zipW piles Z).map (·.1) = piles := by
  unfold zipW
  rw [List.map_map]
  have : ((fun x : List Int × Nat => x.1) ∘ fun p : List Int × Nat => (p.1, Z.getD p.2 1)) = Prod.fst := by funext p; rfl
  rw [this, List.zipIdx_map_fst]

set_option tactic.hygienic true in
theorem law_plain {script : List Int} {c : Nat} {dvx : List (List Int) -> Option (List Int)} (hcn : cntF script = c) (hc : c <= 4) (hdv : ∀ t l, dvx t = some l -> divF t = some l)
    (hA : chkA c (lnL (numF script c) c) (finK (numF script c) c) = true) (hB : chkG dvx c (szL (numF script c) c) (finK (numF script c) c) = true) :
    ∃ st ps ws t dv, LawIs script c st ps ws t dv := by
  have hN : (numF script c).length = 2 * c := by simp [numF]
  generalize hNN : numF script c = N at *
  generalize hK : finK N c = K at *
  unfold chkA at hA
  split at hA
  . cases hA
  rename_i qs hq
  simp only [Bool.and_eq_true, decide_eq_true_eq, beq_iff_eq] at hA
  refine cps fun U J => ?_
  obtain ⟨⟨⟨⟨⟨⟨⟨⟨⟨⟨⟨a1, a2⟩, a3⟩, a4⟩, a5⟩, a6⟩, a7⟩, a8⟩, a9⟩, a10⟩, a11⟩, a12⟩ := hA
  refine J ?_; clear J U
  have hT : ∀ x ∈ K.text, goodC x = true := fun x hx => by
    have := List.all_eq_true.mp a4 x hx
    exact this
  have hprep : ∀ i, i < c -> prepF ((chunkK i ((lnL N c).getD i 1)).map (rho N c)) = some (nameB (szL N c) i) := fun i hi => by
    rw [ln_getD hi, chunk_map (Nat.lt_of_lt_of_le hi hc), prep_ch hi hc]
  have hsome : ∀ q ∈ qs, (prepF (q.name.map (rho N c))).isSome = true := fun q hq => by
    have : q.name ∈ qs.map (·.name) := List.mem_map.mpr ⟨q, hq, rfl⟩
    rw [a5] at this
    obtain ⟨i, hi, e⟩ := List.mem_map.mp this
    rw [<- e, hprep i (List.mem_range.mp hi)]; rfl
  have hread := read_rho hT a3 hq hsome
  have hnames : (qs.map (named N c)).map (·.name) = (List.range c).map (nameB (szL N c)) := by
    rw [List.map_map]
    have e1 : ((fun p : PR => p.name) ∘ named N c) = (fun l : List Nat => (prepF (l.map (rho N c))).getD []) ∘ (fun p : PR => p.name) := by funext p; rfl
    rw [e1, <- List.map_map, a5, List.map_map]
    apply List.map_congr_left
    intro i hi
    show (prepF ((chunkK i ((lnL N c).getD i 1)).map (rho N c))).getD [] = _
    rw [hprep i (List.mem_range.mp hi)]; rfl
  unfold chkG at hB
  split at hB
  . cases hB
  rename_i ws hws
  simp only [Bool.and_eq_true] at hB
  refine cps fun U J => ?_
  obtain ⟨⟨⟨b1, b2⟩, b3⟩, b4⟩ := hB
  refine J ?_; clear J U
  split at b2
  . cases b2
  rename_i dv hdvx
  have hplaces : (qs.map (named N c)).map (·.place) = qs.map (·.place) := by rw [List.map_map]; rfl
  have hget : ∀ (k : Nat) (p : PR), (qs.map (named N c))[k]? = some p -> ∃ q, qs[k]? = some q /\ p.place = q.place /\ p.stop = q.stop := fun k p hp => by
    rw [List.getElem?_map] at hp
    obtain ⟨q, h1, h2⟩ := Option.map_eq_some_iff.mp hp
    exact ⟨q, h1, by rw [<- h2]; rfl, by rw [<- h2]; rfl⟩
  have hwords : ((-1 : Int) :: (qs.map (named N c)).map PR.place).mapM (fun room => wordF (qs.map (named N c)) room) = some ws := by
    rw [<- hws, hplaces]
    unfold abvF
    rw [zipW_fst]
    refine mapM_two _ _ (by simp [a1, a2]) fun j room a h1 h2 => ?_
    refine word_B (by lia) (by rw [List.length_map, a1]) hnames fun k p hp => ?_
    refine cps fun U J => ?_
    obtain ⟨q, hq1, hq2, hq3⟩ := hget k p hp
    refine J ?_; clear J U
    rw [hq2, hq3]
    cases j with
    | zero =>
      simp only [List.getElem?_cons_zero, Option.some.injEq] at h1 h2
      subst h1; subst h2
      have : 0 <= q.place := by
        have := List.all_eq_true.mp a8 q (List.mem_of_getElem? hq1)
        simpa using this
      rw [decide_eq_false (by lia)]
      simp
    | succ j =>
      rw [List.getElem?_cons_succ] at h1 h2
      rw [List.getElem?_map] at h1
      refine cps fun U J => ?_
      obtain ⟨q', hq', rfl⟩ := Option.map_eq_some_iff.mp h1
      refine J ?_; clear J U
      unfold insOk at a9
      have hk : k < c := by rw [<- a1]; exact (List.getElem?_eq_some_iff.mp hq1).1
      have hj : j < c := by rw [<- a1]; exact (List.getElem?_eq_some_iff.mp hq').1
      have := List.all_eq_true.mp (List.all_eq_true.mp a9 k (List.mem_range.mpr hk)) j (List.mem_range.mpr hj)
      rw [hq1, hq'] at this
      simp only [beq_iff_eq] at this
      rw [this, List.getD_eq_getElem?_getD, h2, Option.getD_some]
  have hl1 : ∀ (X : List Nat), (∀ x ∈ X, goodC x = true) -> X.length <= 100 -> okL (X.map (rho N c)) = true := fun X h1 h2 => okL_rho h1 h2
  have hr : K.text.map (rho N c) = (relK N c K).text := rfl
  have x1 : ((relK N c K).text.drop 1 ++ (relK N c K).text.take 1) = (K.text.drop 1 ++ K.text.take 1).map (rho N c) := by rw [<- hr]; simp [List.map_drop, List.map_take]
  have x2 : (relK N c K).text.drop 1 = (K.text.drop 1).map (rho N c) := by rw [<- hr]; simp [List.map_drop]
  have x3 : (relK N c K).text.dropLast = K.text.dropLast.map (rho N c) := by rw [<- hr]; simp [List.map_dropLast]
  have g1 : ∀ x ∈ K.text.drop 1 ++ K.text.take 1, goodC x = true := fun x hx => by
    rcases List.mem_append.mp hx with h | h
    . exact hT x (List.mem_of_mem_drop h)
    . exact hT x (List.mem_of_mem_take h)
  have g2 : ∀ x ∈ K.text.drop 1, goodC x = true := fun x hx => hT x (List.mem_of_mem_drop hx)
  have g3 : ∀ x ∈ K.text.dropLast, goodC x = true := fun x hx => hT x ((List.dropLast_sublist _).subset hx)
  have b3' : ((List.range c).map (nameB (szL N c))).flatten = alpha8.take ((zipW K.piles (szL N c)).map (·.2)).sum := by simpa using b3
  refine ⟨relK N c K, qs.map (named N c), ws, expF (abvF (zipW K.piles (szL N c))) (szF (zipW K.piles (szL N c)) c) c, dv, ?_⟩
  exact {
    cn := hcn
    text := by rw [hNN, <- hK]; exact text_fin hc hN
    read := hread
    pl := by rw [List.length_map, a1]
    words := hwords
    tab := by simpa using b1
    nl := fun p hp => by
      have : p.name ∈ (qs.map (named N c)).map (·.name) := List.mem_map.mpr ⟨p, hp, rfl⟩
      rw [hnames] at this
      obtain ⟨i, hi, e⟩ := List.mem_map.mp this
      rw [<- e]
      have := sz_le2 (N := N) (c := c) (i := i)
      simp only [nameB, List.length_map, List.length_range]; lia
    dvs := hdv _ _ hdvx
    due := by rw [hnames]; simpa using b2
    wl := by show (zipW K.piles (szL N c)).length = c; simp [zipW, a2]
    w1 := fun w hw => by
      have : w.1 ∈ (zipW K.piles (szL N c)).map (·.1) := List.mem_map.mpr ⟨w, hw, rfl⟩
      rw [zipW_fst] at this
      have := List.all_eq_true.mp a7 _ this
      simpa using this
    w2 := fun w hw => by
      have := List.all_eq_true.mp b4 w hw
      simpa using this
    names := by rw [hnames]; exact b3'
    counts := by
      have e1 : (qs.map (named N c)).map (·.taken) = qs.map (·.taken) := by rw [List.map_map]; rfl
      have e2 : ((relK N c K).ways.map fun w => w.1.dropLast) = K.piles.map List.dropLast := by
        show ((zipW K.piles (szL N c)).map fun w => w.1.dropLast) = _
        have : ((zipW K.piles (szL N c)).map fun w => w.1.dropLast) = ((zipW K.piles (szL N c)).map (·.1)).map List.dropLast := by rw [List.map_map]; rfl
        rw [this, zipW_fst]
      rw [e1, e2]; exact a6
    tl := by rw [<- hr, List.length_map]; exact a3
    k1 := by rw [x1]; exact hl1 _ g1 (by rw [List.length_append, List.length_drop, List.length_take, n_one]; assumption)
    k2 := by rw [x2]; exact hl1 _ g2 (by rw [List.length_drop]; exact Nat.le_trans (Nat.sub_le _ _) (by assumption))
    k3 := by rw [x3]; exact hl1 _ g3 (by rw [List.length_dropLast]; exact Nat.le_trans (Nat.sub_le _ _) (by assumption))
    p1 := by rw [x1, pgo_rho _ _ g1]; simpa using a10
    p2 := by rw [x2, pgo_rho _ _ g2]; simpa using a11
    p3 := by rw [x3, pgo_rho _ _ g3]; simpa using a12
    last := rfl }

theorem ln_in {N : List Int} {c i : Nat} : (chF N c i).length = 1 \/ (chF N c i).length = 2 \/ (chF N c i).length = 3 := by
  have := ch_len (N := N) (c := c) (i := i); lia
theorem sz_in {N : List Int} {i : Nat} : sizeF (N.getD i 0) = 1 \/ sizeF (N.getD i 0) = 2 := size_le _
theorem lnL3 {N : List Int} : lnL N 3 = [(chF N 3 0).length, (chF N 3 1).length, (chF N 3 2).length] := rfl
theorem szL3 {N : List Int} : szL N 3 = [sizeF (N.getD 0 0), sizeF (N.getD 1 0), sizeF (N.getD 2 0)] := rfl
theorem chkA3 {N : List Int} (hN : N.length = 6) : chkA 3 (lnL N 3) (finK N 3) = true := by
  have h := A3_ok (ln_in (N := N) (c := 3) (i := 0)) (ln_in (N := N) (c := 3) (i := 1)) (ln_in (N := N) (c := 3) (i := 2))
  rw [<- lnL3] at h
  have hb : (N.map fun x => x.fmod 2 == 1).length = 6 := by rw [List.length_map, hN]
  rw [<- hb] at h
  exact allK_ok _ _ h
theorem chkB3 {N : List Int} (hN : N.length = 6) : chkG divX4 3 (szL N 3) (finK N 3) = true := by
  have h := B3_ok (sz_in (N := N) (i := 0)) (sz_in (N := N) (i := 1)) (sz_in (N := N) (i := 2))
  rw [<- szL3] at h
  have hb : (N.map fun x => x.fmod 2 == 1).length = 6 := by rw [List.length_map, hN]
  rw [<- hb] at h
  have e := chkG_congr (dv := divX4) (c := 3) (Z := szL N 3) (run_piles (c := 3) (L := lnL N 3) (L' := szL N 3) (N.map fun x => x.fmod 2 == 1) k0 k0 rfl rfl rfl)
  unfold finK
  rw [e]
  exact allK_ok _ _ h
theorem lnL4 {N : List Int} : lnL N 4 = [(chF N 4 0).length, (chF N 4 1).length, (chF N 4 2).length, (chF N 4 3).length] := rfl
theorem szL4 {N : List Int} : szL N 4 = [sizeF (N.getD 0 0), sizeF (N.getD 1 0), sizeF (N.getD 2 0), sizeF (N.getD 3 0)] := rfl
theorem chkA4 {N : List Int} (hN : N.length = 8) : chkA 4 (lnL N 4) (finK N 4) = true := by
  have h := A4_ok (ln_in (N := N) (c := 4) (i := 0)) (ln_in (N := N) (c := 4) (i := 1)) (ln_in (N := N) (c := 4) (i := 2)) (ln_in (N := N) (c := 4) (i := 3))
  rw [<- lnL4] at h
  have hb : (N.map fun x => x.fmod 2 == 1).length = 8 := by rw [List.length_map, hN]
  rw [<- hb] at h
  exact allK_ok _ _ h
theorem chkB4 {N : List Int} (hN : N.length = 8) : chkG divX5 4 (szL N 4) (finK N 4) = true := by
  have h := B4_ok (sz_in (N := N) (i := 0)) (sz_in (N := N) (i := 1)) (sz_in (N := N) (i := 2)) (sz_in (N := N) (i := 3))
  rw [<- szL4] at h
  have hb : (N.map fun x => x.fmod 2 == 1).length = 8 := by rw [List.length_map, hN]
  rw [<- hb] at h
  have e := chkG_congr (dv := divX5) (c := 4) (Z := szL N 4) (run_piles (c := 4) (L := lnL N 4) (L' := szL N 4) (N.map fun x => x.fmod 2 == 1) k0 k0 rfl rfl rfl)
  unfold finK
  rw [e]
  exact allK_ok _ _ h
theorem law_is (script : List Int) : ∃ c st ps ws t dv, LawIs script c st ps ws t dv := by
  have hcc : cntF script = 3 \/ cntF script = 4 := by unfold cntF; split <;> simp
  rcases hcc with hcn | hcn
  . exact ⟨3, law_plain (dvx := divX4) hcn (by decide) (fun t l h => divX4_ok h) (chkA3 (by simp [numF])) (chkB3 (by simp [numF]))⟩
  . exact ⟨4, law_plain (dvx := divX5) hcn (by decide) (fun t l h => divX5_ok h) (chkA4 (by simp [numF])) (chkB4 (by simp [numF]))⟩
theorem lawF_true (script : List Int) (h : script.length <= 63) : lawF [.lst (script.map .int)] = some (.bool true) := by
  refine cps fun U J => ?_
  obtain ⟨c, st, ps, ws, t, dv, L⟩ := law_is script
  refine J ?_; clear J U
  exact lawF_eq h L
end

section
open PySem PyProof.Rows

section
variable {w : World} {hB : Heap} {mg mb : Str -> Option Value} {Pl : PySem.Addr} {o : Orc} {k : Nat}
theorem fa (T : TopIs w hB mg mb Pl) {i : Nat} {names : List Str} (hi : fnE Pl i ∈ FF Pl (B1 w Pl) (B3 w Pl)) (hbind : ∀ (pm cd : Value) (vals : List Value), vals.length = names.length -> bindArgs (plainDef (fd i).name (fd i).params (fd i).body (fd i).scope pm cd) ⟨vals, []⟩ = pure (names.zip vals)) :
    ∃ a ob d, mg (fd i).name = some (.ref a) /\ FnAt PW w hB (fd i).name names (bd i) (scp i) a ob d := by
  obtain ⟨v, hv, h⟩ := T.held _ hi
  obtain ⟨a, pm, c', rfl, _, _, _, _, e, r⟩ := h
  exact ⟨a, _, _, hv, gname_top T.g hv, e, rfl, rfl, rfl, rfl, rfl, rfl, r, T.lim, fun vals hl => hbind pm (.ref c') vals hl⟩
theorem all0 {P : List Value -> Prop} (h : P []) : ∀ vs : List Value, vs.length = 0 -> P vs := fun vs e => List.eq_nil_of_length_eq_zero e ▸ h
theorem all1 {P : List Value -> Prop} (h : ∀ a, P [a]) (vs : List Value) (e : vs.length = 1) : P vs := by
  cases vs with
  | nil => cases e
  | cons a vs => cases List.eq_nil_of_length_eq_zero (Nat.succ.inj e); exact h a
theorem all2 {P : List Value -> Prop} (h : ∀ a b, P [a, b]) (vs : List Value) (e : vs.length = 2) : P vs := by
  cases vs with
  | nil => cases e
  | cons a vs => exact all1 (P := fun vs => P (a :: vs)) (h a) vs (Nat.succ.inj e)
theorem all3 {P : List Value -> Prop} (h : ∀ a b c, P [a, b, c]) (vs : List Value) (e : vs.length = 3) : P vs := by
  cases vs with
  | nil => cases e
  | cons a vs => exact all2 (P := fun vs => P (a :: vs)) (h a) vs (Nat.succ.inj e)

theorem fa4 (T : TopIs w hB mg mb Pl) : ∃ a ob d, mg "_substitution_cost" = some (.ref a) /\ FnAt PW w hB "_substitution_cost" ["ch_a", "ch_b"] (bd 4) (scp 4) a ob d :=
  fa T (i := 4) (names := ["ch_a", "ch_b"]) (List.mem_of_getElem? (i := 19) rfl) (fun pm cd => all2 fun _ _ => rfl)
theorem sc4 : okScope (scp 4) ["ch_a", "ch_b"] = true := by decide
theorem fa5 (T : TopIs w hB mg mb Pl) : ∃ a ob d, mg "_levenshtein_distance" = some (.ref a) /\ FnAt PW w hB "_levenshtein_distance" ["a", "b", "max_cost"] (bd 5) (scp 5) a ob d :=
  fa T (i := 5) (names := ["a", "b", "max_cost"]) (List.mem_of_getElem? (i := 18) rfl) (fun pm cd => all3 fun _ _ _ => rfl)
theorem sc5 : okScope (scp 5) ["a", "b", "max_cost"] = true := by decide
theorem fa7 (T : TopIs w hB mg mb Pl) : ∃ a ob d, mg "_iter_escaped_chars" = some (.ref a) /\ FnAt PW w hB "_iter_escaped_chars" ["addr"] (bd 7) (scp 7) a ob d :=
  fa T (i := 7) (names := ["addr"]) (List.mem_of_getElem? (i := 17) rfl) (fun pm cd => all1 fun _ => rfl)
theorem fa8 (T : TopIs w hB mg mb Pl) : ∃ a ob d, mg "_strip_quoted_realnames" = some (.ref a) /\ FnAt PW w hB "_strip_quoted_realnames" ["addr"] (bd 8) (scp 8) a ob d :=
  fa T (i := 8) (names := ["addr"]) (List.mem_of_getElem? (i := 16) rfl) (fun pm cd => all1 fun _ => rfl)
theorem sc8 : okScope (scp 8) ["addr"] = true := by decide
theorem fa9 (T : TopIs w hB mg mb Pl) : ∃ a ob d, mg "_check_parenthesis" = some (.ref a) /\ FnAt PW w hB "_check_parenthesis" ["addr"] (bd 9) (scp 9) a ob d :=
  fa T (i := 9) (names := ["addr"]) (List.mem_of_getElem? (i := 15) rfl) (fun pm cd => all1 fun _ => rfl)
theorem sc9 : okScope (scp 9) ["addr"] = true := by decide
theorem fa12 (T : TopIs w hB mg mb Pl) : ∃ a ob d, mg "in_table_b1" = some (.ref a) /\ FnAt PW w hB "in_table_b1" ["code"] (bd 12) (scp 12) a ob d :=
  fa T (i := 12) (names := ["code"]) (List.mem_of_getElem? (i := 13) rfl) (fun pm cd => all1 fun _ => rfl)
theorem sc12 : okScope (scp 12) ["code"] = true := by decide
theorem fa14 (T : TopIs w hB mg mb Pl) : ∃ a ob d, mg "map_table_b3" = some (.ref a) /\ FnAt PW w hB "map_table_b3" ["code"] (bd 14) (scp 14) a ob d :=
  fa T (i := 14) (names := ["code"]) (List.mem_of_getElem? (i := 11) rfl) (fun pm cd => all1 fun _ => rfl)
theorem sc14 : okScope (scp 14) ["code"] = true := by decide
theorem fa16 (T : TopIs w hB mg mb Pl) : ∃ a ob d, mg "_law_unseen" = some (.ref a) /\ FnAt PW w hB "_law_unseen" [] (bd 16) (scp 16) a ob d :=
  fa T (i := 16) (names := []) (List.mem_of_getElem? (i := 10) rfl) (fun pm cd => all0 rfl)
theorem sc16 : okScope (scp 16) [] = true := by decide
theorem fa17 (T : TopIs w hB mg mb Pl) : ∃ a ob d, mg "_law_text" = some (.ref a) /\ FnAt PW w hB "_law_text" ["numbers"] (bd 17) (scp 17) a ob d :=
  fa T (i := 17) (names := ["numbers"]) (List.mem_of_getElem? (i := 9) rfl) (fun pm cd => all1 fun _ => rfl)
theorem sc17 : okScope (scp 17) ["numbers"] = true := by decide
theorem fa18 (T : TopIs w hB mg mb Pl) : ∃ a ob d, mg "_law_prepared" = some (.ref a) /\ FnAt PW w hB "_law_prepared" ["text"] (bd 18) (scp 18) a ob d :=
  fa T (i := 18) (names := ["text"]) (List.mem_of_getElem? (i := 8) rfl) (fun pm cd => all1 fun _ => rfl)
theorem sc18 : okScope (scp 18) ["text"] = true := by decide
theorem fa19 (T : TopIs w hB mg mb Pl) : ∃ a ob d, mg "_law_read" = some (.ref a) /\ FnAt PW w hB "_law_read" ["text"] (bd 19) (scp 19) a ob d :=
  fa T (i := 19) (names := ["text"]) (List.mem_of_getElem? (i := 7) rfl) (fun pm cd => all1 fun _ => rfl)
theorem sc19 : okScope (scp 19) ["text"] = true := by decide
theorem fa20 (T : TopIs w hB mg mb Pl) : ∃ a ob d, mg "_law_word" = some (.ref a) /\ FnAt PW w hB "_law_word" ["pairs", "room"] (bd 20) (scp 20) a ob d :=
  fa T (i := 20) (names := ["pairs", "room"]) (List.mem_of_getElem? (i := 6) rfl) (fun pm cd => all2 fun _ _ => rfl)
theorem sc20 : okScope (scp 20) ["pairs", "room"] = true := by decide
theorem fa21 (T : TopIs w hB mg mb Pl) : ∃ a ob d, mg "_law_determinant" = some (.ref a) /\ FnAt PW w hB "_law_determinant" ["table"] (bd 21) (scp 21) a ob d :=
  fa T (i := 21) (names := ["table"]) (List.mem_of_getElem? (i := 5) rfl) (fun pm cd => all1 fun _ => rfl)
theorem sc21 : okScope (scp 21) ["table"] = true := by decide
theorem fa22 (T : TopIs w hB mg mb Pl) : ∃ a ob d, mg "_law_common" = some (.ref a) /\ FnAt PW w hB "_law_common" ["numbers"] (bd 22) (scp 22) a ob d :=
  fa T (i := 22) (names := ["numbers"]) (List.mem_of_getElem? (i := 4) rfl) (fun pm cd => all1 fun _ => rfl)
theorem sc22 : okScope (scp 22) ["numbers"] = true := by decide
theorem fa23 (T : TopIs w hB mg mb Pl) : ∃ a ob d, mg "_law_sets" = some (.ref a) /\ FnAt PW w hB "_law_sets" ["size"] (bd 23) (scp 23) a ob d :=
  fa T (i := 23) (names := ["size"]) (List.mem_of_getElem? (i := 3) rfl) (fun pm cd => all1 fun _ => rfl)
theorem sc23 : okScope (scp 23) ["size"] = true := by decide
theorem fa24 (T : TopIs w hB mg mb Pl) : ∃ a ob d, mg "_law_divisors" = some (.ref a) /\ FnAt PW w hB "_law_divisors" ["table"] (bd 24) (scp 24) a ob d :=
  fa T (i := 24) (names := ["table"]) (List.mem_of_getElem? (i := 2) rfl) (fun pm cd => all1 fun _ => rfl)
theorem sc24 : okScope (scp 24) ["table"] = true := by decide
theorem fa25 (T : TopIs w hB mg mb Pl) : ∃ a ob d, mg "_law_due" = some (.ref a) /\ FnAt PW w hB "_law_due" ["lengths"] (bd 25) (scp 25) a ob d :=
  fa T (i := 25) (names := ["lengths"]) (List.mem_of_getElem? (i := 1) rfl) (fun pm cd => all1 fun _ => rfl)
theorem sc25 : okScope (scp 25) ["lengths"] = true := by decide
theorem fa26 (T : TopIs w hB mg mb Pl) : ∃ a ob d, mg "law" = some (.ref a) /\ FnAt PW w hB "law" ["script"] (bd 26) (scp 26) a ob d :=
  fa T (i := 26) (names := ["script"]) (List.mem_of_getElem? (i := 0) rfl) (fun pm cd => all1 fun _ => rfl)
theorem sc26 : okScope (scp 26) ["script"] = true := by decide

theorem p7 : GText (bd 7) (scp 7) where
  body := ⟨_, _, _, _, _, _, _, _, _, _, _, _, _, _, _, _, _, _, _, _, _, _, _, _, _, _, _, _, _, _, ⟨_, rfl⟩, ⟨_, rfl⟩, ⟨_, _, _, _, rfl⟩, ⟨_, _, rfl⟩, rfl⟩
  kind := rfl
  gen := rfl
  co := rfl
  cells := by decide
  kE := rfl
  kP := rfl
  kC := rfl
  kA := rfl
  kN := rfl
theorem p9 : PText (bd 9) (scp 9) (nth (bd 9) 0) (nth (bd 9) 1) where
  body := ⟨_, _, _, _, _, _, _, _, _, _, _, _, _, _, _, _, _, _, _, _, _, _, _, _, _, _, _, _, _, _, _, _, _, _, _, _, _, _, _, rfl⟩
  scope := sc9
  kO := rfl
  kP := rfl
  kC := rfl
  kA := rfl
  kG := rfl
theorem s12 : ∃ (p1 p2 p3 p4 p5 p6 : Pos), bd 12 = [.Return (some (.Compare (.Call (.Name "ord" p1) [.Name "code" p2] [] p3) [.In] [.Name "b1_set" p4] p5)) p6] := ⟨_, _, _, _, _, _, rfl⟩
theorem s14 : ∃ (p1 p2 p3 p4 p5 p6 p7 p8 : Pos), bd 14 = .Assign [.Name "r" p1] (.Call (.Attribute (.Name "b3_exceptions" p2) "get" p3) [.Call (.Name "ord" p4) [.Name "code" p5] [] p6] [] p7) p8 :: [nth (bd 14) 1, nth (bd 14) 2] /\ (p3.endLine == p7.line) = true := ⟨_, _, _, _, _, _, _, _, rfl, rfl⟩
theorem r14 (o : Orc) (x : Str) (q : PV) (hx : x.length = 1) : (q = .none \/ ∃ y, q = .str y) -> Internal.execs o (scp 14) [nth (bd 14) 1, nth (bd 14) 2] (up "r" (.pv q) (frz [] (upAll ["code"] [.str x] fun _ => Option.none))) = some (.ret (match q with | .none => .str (Txt.lower x) | q => q)) := by
  intro hq
  have hl : bmeth .lower (.str x) [] = some (.str (Txt.lower x)) := if_pos (by rw [hx]; decide)
  (generalize hsy : (nth (bd 14) 1) = Sy; (conv at hsy => (lhs; whnf)); subst hsy)
  (generalize hsy : (nth (bd 14) 2) = Sy; (conv at hsy => (lhs; whnf)); subst hsy)
  rcases hq with h | ⟨y, h⟩ <;> subst h
  . show _ = some (Out.ret (.str (Txt.lower x)))
    fail "x"
  . show _ = some (Out.ret (.str y))
    fail "x"
theorem b1_at (T : TopIs w hB mg mb Pl) : ∃ b n, mg "b1_set" = some (.ref b) /\ hB.SetOf (intKind PW w) b b1S n := by
  obtain ⟨v, hv, h⟩ := T.held ("b1_set", B1 w Pl) (List.mem_of_getElem? (i := 14) rfl)
  obtain ⟨a, n, rfl, _, _, h⟩ := h
  exact ⟨a, n, hv, h⟩
theorem b3_at (T : TopIs w hB mg mb Pl) : ∃ b kvs, mg "b3_exceptions" = some (.ref b) /\ hB.DictOf (IK w) b kvs /\ Vals kvs b3L /\ (b == sysModules) = false := by
  obtain ⟨v, hv, h⟩ := T.held ("b3_exceptions", B3 w Pl) (List.mem_of_getElem? (i := 12) rfl)
  obtain ⟨a, kvs, rfl, h1, h2, _, h3, h4⟩ := h
  exact ⟨a, kvs, hv, h3, h4, by rw [beq_eq_false_iff_ne]; exact Nat.ne_of_gt (Nat.lt_trans h2 h1)⟩
theorem o2_ok (T : TopIs w hB mg mb Pl) : OrcOk PW w hB 1 o2 := by
  have O := o1_ok T
  have O1 := O.up (k' := 1) (by decide)
  obtain ⟨_, _, _, _, F4⟩ := fa4 T
  obtain ⟨_, _, _, _, F8⟩ := fa8 T
  obtain ⟨_, _, _, _, F12⟩ := fa12 T
  obtain ⟨_, _, _, _, F14⟩ := fa14 T
  obtain ⟨_, _, _, _, F16⟩ := fa16 T
  obtain ⟨_, _, _, _, F20⟩ := fa20 T
  obtain ⟨_, _, _, _, F22⟩ := fa22 T
  obtain ⟨_, _, _, _, F23⟩ := fa23 T
  obtain ⟨b, n, hb, hS⟩ := b1_at T
  obtain ⟨b', kvs, hb', hD, hV, hsm⟩ := b3_at T
  obtain ⟨_, _, _, _, _, _, e12⟩ := s12
  obtain ⟨_, _, _, _, _, _, _, _, e14, l14⟩ := s14
  have K12 := in_b1_ok O F12 sc12 e12 (by rfl) (by rfl) (by rfl) (gname_top T.g hb) hS
  have K14 := map_b3_ok O F14 sc14 e14 l14 (by rfl) (by rfl) (by rfl) (by rfl) (gname_top T.g hb') hD hV hsm (r14 o1)
  exact ext_ok (ext_ok (ext_ok (ext_ok (ext_ok (ext_ok (ext_ok (ext_ok O1 (fn_ok O F4 sc4)) (fn_ok O F8 sc8)) K12) K14) (fn_ok O F16 sc16)) (fn_ok O F20 sc20)) (fn_ok O F22 sc22)) (fn_ok O F23 sc23)
theorem o3_ok (T : TopIs w hB mg mb Pl) : OrcOk PW w hB 2 o3 := by
  have O := o2_ok T
  have O1 := O.up (k' := 2) (by decide)
  obtain ⟨_, _, _, _, F5⟩ := fa5 T
  obtain ⟨_, _, _, _, F7⟩ := fa7 T
  obtain ⟨_, _, _, _, F9⟩ := fa9 T
  obtain ⟨_, _, _, _, F17⟩ := fa17 T
  obtain ⟨_, _, _, _, F18⟩ := fa18 T
  obtain ⟨_, _, _, _, F25⟩ := fa25 T
  have hen : GName PW w hB "enumerate" (.type "enumerate") := gname_built T.g T.b (T.free _ (notIn (by rfl)) (by decide) (by decide)) ((T.bu _ (by decide)).trans (by rfl))
  have K9 := paren_ok O F9 p9 F7 p7 hen check_head
  exact ext_ok (ext_ok (ext_ok (ext_ok (ext_ok O1 (fn_ok O F5 sc5)) K9) (fn_ok O F17 sc17)) (fn_ok O F18 sc18)) (fn_ok O F25 sc25)
theorem od_ok (T : TopIs w hB mg mb Pl) : ∀ n, OrcOk PW w hB (n + 2) (od n)
  | 0 => o3_ok T
  | n + 1 => by
    obtain ⟨_, _, _, _, F21⟩ := fa21 T
    exact ext_ok ((o3_ok T).up (by first | exact Nat.le_add_left _ _ | exact Nat.le_add_right _ _ | omega)) (fn_ok (od_ok T n) F21 sc21)
theorem o4_ok (T : TopIs w hB mg mb Pl) : OrcOk PW w hB 10 o4 := by
  have O := od_ok T 7
  obtain ⟨_, _, _, _, F19⟩ := fa19 T
  obtain ⟨_, _, _, _, F24⟩ := fa24 T
  exact ext_ok (ext_ok (O.up (by decide)) (fn_ok O F19 sc19)) (fn_ok O F24 sc24)
theorem law_at (T : TopIs w hB mg mb Pl) : ∃ a, mg "law" = some (.ref a) /\ FnOkAt PW w hB 11 a lawF := by
  obtain ⟨a, _, _, h, F26⟩ := fa26 T
  exact ⟨a, h, fn_at (o4_ok T) F26 sc26⟩
end
end

theorem law_ok : LawOk := fun w hB mg mb Pl T =>
  let ⟨a, h, F⟩ := law_at T
  ⟨lawF, 11, a, by decide, h, F, lawF_true⟩
end Mine.Internal

theorem PySem.Challenge.cw_rs0211_01_holds : PySem.Challenge.rw_rs0211_01.Holds := by
  exact Mine.Internal.rw_holds Mine.Internal.law_ok
